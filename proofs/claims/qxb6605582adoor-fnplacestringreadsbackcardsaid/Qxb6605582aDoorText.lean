/-
  FROM A TEXT AS A LIST OF BYTES TO THE PLACES THAT zzReadStep'S WALK ASKS; the numeral's value.
-/
import Derived.Test.Qxb6605582aDoorWalkB
import Derived.Lib.ItoaNum
import Derived.Lib.ItoaMem
namespace Go.Proofs.Qxb6605582aDoor
open Go.ChangeShapes Go.WideShapes Go.ChangeAt Go.RowKit
set_option linter.unusedVariables false

/-! ### the numeral -/
def isDig (c : UInt8) : Prop := 48 ≤ (c.toNat : Int) ∧ (c.toNat : Int) ≤ 57
def lv (l : List UInt8) : Int := l.foldl (fun a c => a * 10 + ((c.toNat : Int) - 48)) 0
theorem lv_snoc (l : List UInt8) (c : UInt8) : lv (l ++ [c]) = lv l * 10 + ((c.toNat : Int) - 48) := by simp [lv]

theorem dig_ofNat (u : Nat) (h : u < 10) : ((UInt8.ofNat (48 + u)).toNat : Int) = 48 + u := by
  have : (UInt8.ofNat (48 + u)).toNat = 48 + u := by
    rw [UInt8.toNat_ofNat']
    omega
  omega

theorem dec_spec (u : Nat) : (∀ c ∈ Lib.decDigits u, isDig c) ∧ lv (Lib.decDigits u) = u := by
  induction u using Nat.strongRecOn with
  | _ u ih =>
    by_cases h : u < 10
    · rw [Lib.decDigits, dif_pos h]
      have := dig_ofNat u h
      refine ⟨?_, ?_⟩
      · intro c hc
        rw [List.mem_singleton] at hc
        subst hc
        unfold isDig
        omega
      · have := lv_snoc [] (UInt8.ofNat (48 + u))
        simp only [List.nil_append] at this
        rw [this]
        have e : lv [] = 0 := rfl
        omega
    · rw [Lib.decDigits, dif_neg h]
      have h1 := ih (u / 10) (by omega)
      have h2 := dig_ofNat (u % 10) (by omega)
      refine ⟨?_, ?_⟩
      · intro c hc
        rw [List.mem_append] at hc
        rcases hc with hc | hc
        · exact h1.1 c hc
        · rw [List.mem_singleton] at hc
          subst hc
          unfold isDig
          omega
      · rw [lv_snoc, h1.2]
        omega

theorem nDigits_le (k : Nat) : ∀ u, u < 10 ^ (k + 1) → Lib.nDigits u ≤ k + 1 := by
  induction k with
  | zero => intro u h; rw [Lib.nDigits_small (by simpa using h)]; omega
  | succ k ih =>
    intro u h
    by_cases hu : u < 10
    · rw [Lib.nDigits_small hu]; omega
    · rw [Lib.nDigits_big hu]
      have := ih (u / 10) (by rw [Nat.pow_succ] at h; omega)
      omega

theorem dec_len (u : Nat) (h : u ≤ 9223372036854775808) : 1 ≤ (Lib.decDigits u).length ∧ (Lib.decDigits u).length ≤ 19 := by
  rw [Lib.decDigits_length]
  exact ⟨Lib.nDigits_pos u, nDigits_le 18 u (by omega)⟩

/-! ### bytes of a string as a list -/
theorem byt_list (s : ByteArray) (t : Nat) : byt s t = (((s.data.toList)[t]?.getD 0).toNat : Int) := by
  unfold byt
  by_cases h : t < s.size
  · rw [dif_pos h]
    have h' : t < s.data.toList.length := by simpa using h
    rw [List.getElem?_eq_getElem h']
    rfl
  · rw [dif_neg h]
    have h' : s.data.toList.length ≤ t := by simpa using h
    rw [List.getElem?_eq_none h']
    rfl

theorem dv_lv (b : Nat → Int) (d : Nat) (D : List UInt8) (h : ∀ t (ht : t < D.length), b (d + t) = (D[t].toNat : Int)) (m : Nat) (hm : m ≤ D.length) : dv b d m = lv (D.take m) := by
  induction m with
  | zero => rfl
  | succ m ih =>
    rw [List.take_succ_eq_append_getElem (by omega), lv_snoc]
    simp only [dv]
    rw [ih (by omega), h m (by omega)]

theorem extract_piece (s l : ByteArray) (P Q : List UInt8) (h : s.data.toList = P ++ (l.data.toList ++ Q)) : s.extract P.length (P.length + l.size) = l := by
  apply ByteArray.ext
  apply Array.ext'
  have hl : l.data.toList.length = l.size := by simp
  simp only [ByteArray.data_extract, Array.toList_extract, List.extract_eq_take_drop, h]
  rw [List.drop_left, show P.length + l.size - P.length = l.data.toList.length from by omega, List.take_left]

/-! ### the value back from the bits -/
theorem wrap_top : wrap64 9223372036854775808 = -9223372036854775808 := by unfold wrap64; decide +kernel
theorem wrap_bot : wrap64 (-(-9223372036854775808)) = -9223372036854775808 := by unfold wrap64; decide +kernel
theorem wrap_pos (u : Nat) (h : u ≤ 9223372036854775807) : wrap64 (u : Int) = (u : Int) := IntWalk.wrap64_in _ ⟨by omega, by omega⟩
theorem wrap_neg (u : Nat) (h : u ≤ 9223372036854775808) : wrap64 (-wrap64 (u : Int)) = -(u : Int) := by
  by_cases hu : u ≤ 9223372036854775807
  · rw [wrap_pos u hu]
    exact IntWalk.wrap64_in _ ⟨by omega, by omega⟩
  · have hi : (u : Int) = 9223372036854775808 := by omega
    rw [hi, wrap_top, wrap_bot]

/-! ### zzReadStep at a written step -/
theorem readStep_text (s l : ByteArray) (P R : List UInt8) (i q : Int) (w : World) (hs : s.size ≤ 4194304) (ht : s.data.toList = P ++ (l.data.toList ++ 91 :: (Lib.itoa i ++ 93 :: R))) (hq : q = (P.length : Int)) (hb : brk l = false)
    (a0 : -9223372036854775808 ≤ i) (a1 : i ≤ 9223372036854775807) :
    Calls Tryd.prog 8 #[.string s, .int .i64 q] w fun e w' => e = .returned (.tuple #[.string l, .int .i64 i, .int .i64 ((P.length + l.size + 1 + (Lib.itoa i).length + 1 : Nat) : Int), .bool true]) ∧ w' = w := by
  have hl : l.data.toList.length = l.size := by simp
  have hsz : s.size = P.length + (l.size + ((Lib.itoa i).length + (R.length + 1) + 1)) := by
    have : s.data.toList.length = s.size := by simp
    rw [← this, ht]
    simp only [List.length_append, List.length_cons, hl]
  have hall := brk_all l hb
  have hno : ∀ t, P.length ≤ t → t < P.length + l.size → byt s t ≠ 91 := by
    intro t h1 h2
    have h3 := (hall (t - P.length) (by omega)).1
    rw [byt_list] at h3 ⊢
    rw [ht, List.getElem?_append_right h1, List.getElem?_append_left (by omega)]
    exact h3
  have h91 : byt s (P.length + l.size) = 91 := by
    rw [byt_list, ht, List.getElem?_append_right (by omega), List.getElem?_append_right (by omega)]
    rw [show P.length + l.size - P.length - l.data.toList.length = 0 from by omega]
    rfl
  have hpiece := extract_piece s l P _ ht
  by_cases hneg : i < 0
  · obtain ⟨u, rfl⟩ : ∃ u : Nat, i = -(u : Int) := ⟨i.natAbs, by omega⟩
    have hu1 : 1 ≤ u := by omega
    have hit := Lib.itoa_neg u hu1
    rw [hit] at ht hsz ⊢
    have hd := dec_len u (by omega)
    have hsp := dec_spec u
    obtain ⟨D, hD⟩ : ∃ D, D = Lib.decDigits u := ⟨_, rfl⟩
    rw [← hD] at ht hsz hd hsp ⊢
    simp only [List.length_cons] at hsz ⊢
    have hdig : ∀ t (h : t < D.length), byt s (P.length + l.size + 2 + t) = (D[t].toNat : Int) := by
      intro t h
      rw [byt_list, ht, List.getElem?_append_right (by omega), List.getElem?_append_right (by omega)]
      rw [show P.length + l.size + 2 + t - P.length - l.data.toList.length = t + 1 + 1 from by omega]
      rw [List.getElem?_cons_succ, List.cons_append, List.getElem?_cons_succ, List.getElem?_append_left h, List.getElem?_eq_getElem h]
      rfl
    have h45 : byt s (P.length + l.size + 1) = 45 := by
      rw [byt_list, ht, List.getElem?_append_right (by omega), List.getElem?_append_right (by omega)]
      rw [show P.length + l.size + 1 - P.length - l.data.toList.length = 1 from by omega]
      rfl
    have h93 : byt s (P.length + l.size + 2 + D.length) = 93 := by
      rw [byt_list, ht, List.getElem?_append_right (by omega), List.getElem?_append_right (by omega)]
      rw [show P.length + l.size + 2 + D.length - P.length - l.data.toList.length = D.length + 1 + 1 from by omega]
      rw [List.getElem?_cons_succ, List.cons_append, List.getElem?_cons_succ, List.getElem?_append_right (by omega), Nat.sub_self]
      rfl
    have hval : dv (byt s) (P.length + l.size + 2) D.length = u := by
      rw [dv_lv (byt s) _ D hdig D.length (Nat.le_refl _), List.take_length]
      exact hsp.2
    refine (readStep_neg s l P.length (P.length + l.size) (P.length + l.size + 2 + D.length) q w hq hs (by omega) (by omega) hno h91 hpiece h45 ?_ (by omega) (by omega) (by omega) h93).mono ?_
    · intro t h1 h2
      obtain ⟨r, rfl⟩ : ∃ r, t = P.length + l.size + 2 + r := ⟨t - (P.length + l.size + 2), by omega⟩
      rw [hdig r (by omega)]
      exact hsp.1 _ (List.getElem_mem _)
    · rintro e w' ⟨rfl, rfl⟩
      refine ⟨?_, rfl⟩
      have e1 : P.length + l.size + 2 + D.length - (P.length + l.size + 2) = D.length := by omega
      have e2 : wrap64 (-wrap64 (u : Int)) = -(u : Int) := wrap_neg u (by omega)
      have e3 : (((P.length + l.size + 2 + D.length : Nat) : Int) + 1) = ((P.length + l.size + 1 + (D.length + 1) + 1 : Nat) : Int) := by omega
      rw [e1, hval, e2, e3]
  · obtain ⟨u, rfl⟩ : ∃ u : Nat, i = (u : Int) := ⟨i.toNat, by omega⟩
    have hit := Lib.itoa_nonneg u
    rw [hit] at ht hsz ⊢
    have hd := dec_len u (by omega)
    have hsp := dec_spec u
    obtain ⟨D, hD⟩ : ∃ D, D = Lib.decDigits u := ⟨_, rfl⟩
    rw [← hD] at ht hsz hd hsp ⊢
    have hdig : ∀ t (h : t < D.length), byt s (P.length + l.size + 1 + t) = (D[t].toNat : Int) := by
      intro t h
      rw [byt_list, ht, List.getElem?_append_right (by omega), List.getElem?_append_right (by omega)]
      rw [show P.length + l.size + 1 + t - P.length - l.data.toList.length = t + 1 from by omega]
      rw [List.getElem?_cons_succ, List.getElem?_append_left h, List.getElem?_eq_getElem h]
      rfl
    have h93 : byt s (P.length + l.size + 1 + D.length) = 93 := by
      rw [byt_list, ht, List.getElem?_append_right (by omega), List.getElem?_append_right (by omega)]
      rw [show P.length + l.size + 1 + D.length - P.length - l.data.toList.length = D.length + 1 from by omega]
      rw [List.getElem?_cons_succ, List.getElem?_append_right (by omega), Nat.sub_self]
      rfl
    have hval : dv (byt s) (P.length + l.size + 1) D.length = u := by
      rw [dv_lv (byt s) _ D hdig D.length (Nat.le_refl _), List.take_length]
      exact hsp.2
    refine (readStep_pos s l P.length (P.length + l.size) (P.length + l.size + 1 + D.length) q w hq hs (by omega) (by omega) hno h91 hpiece ?_ (by omega) (by omega) (by omega) h93).mono ?_
    · intro t h1 h2
      obtain ⟨r, rfl⟩ : ∃ r, t = P.length + l.size + 1 + r := ⟨t - (P.length + l.size + 1), by omega⟩
      rw [hdig r (by omega)]
      exact hsp.1 _ (List.getElem_mem _)
    · rintro e w' ⟨rfl, rfl⟩
      refine ⟨?_, rfl⟩
      have e1 : P.length + l.size + 1 + D.length - (P.length + l.size + 1) = D.length := by omega
      have e2 : wrap64 (u : Int) = (u : Int) := wrap_pos u (by omega)
      have e3 : (((P.length + l.size + 1 + D.length : Nat) : Int) + 1) = ((P.length + l.size + 1 + D.length + 1 : Nat) : Int) := by omega
      rw [e1, hval, e2, e3]
end Go.Proofs.Qxb6605582aDoor
