/-
  THE WALK of zzReadStep (8).
-/
import Derived.Test.Qxb6605582aDoorWalkA
namespace Go.Proofs.Qxb6605582aDoor
open Go.ChangeShapes Go.WideShapes Go.ChangeAt Go.RowKit
set_option linter.unusedVariables false

/-- the number that the m bytes from d on spell -/
def dv (b : Nat → Int) (d : Nat) : Nat → Int
  | 0 => 0
  | m + 1 => dv b d m * 10 + (b (d + m) - 48)

theorem dv_bd (b : Nat → Int) (d m : Nat) (h : ∀ t, t < m → 48 ≤ b (d + t) ∧ b (d + t) ≤ 57) : 0 ≤ dv b d m ∧ dv b d m < 10 ^ m := by
  induction m with
  | zero => simp [dv]
  | succ m ih =>
    have h1 := ih (fun t ht => h t (by omega))
    have h2 := h m (by omega)
    simp only [dv, Int.pow_succ]
    omega

theorem pow_le18 (m : Nat) (h : m ≤ 18) : (10 : Int) ^ m ≤ 1000000000000000000 := by
  have : (10 : Nat) ^ m ≤ 10 ^ 18 := Nat.pow_le_pow_right (by omega) h
  have h2 : ((10 : Int) ^ m) = ((10 ^ m : Nat) : Int) := by simp
  rw [h2]
  omega

theorem dv_le18 (b : Nat → Int) (d m : Nat) (hm : m ≤ 18) (h : ∀ t, t < m → 48 ≤ b (d + t) ∧ b (d + t) ≤ 57) : 0 ≤ dv b d m ∧ dv b d m ≤ 999999999999999999 := by
  have h1 := dv_bd b d m h
  have h2 := pow_le18 m hm
  omega

theorem dv_next (b : Nat → Int) (d m p : Nat) (h : p = d + m) : dv b d (m + 1) = dv b d m * 10 + (b p - 48) := by subst h; rfl

set_option maxRecDepth 20000 in
set_option maxHeartbeats 2000000 in
theorem readStep_pos (s l : ByteArray) (k j1 j2 : Nat) (q : Int) (w : World) (hq : q = (k : Int)) (hs : s.size ≤ 4194304) (hk : k ≤ j1) (hj1 : j1 < s.size)
    (hno : ∀ t, k ≤ t → t < j1 → byt s t ≠ 91) (h91 : byt s j1 = 91) (hl : s.extract k j1 = l)
    (hdg : ∀ t, j1 + 1 ≤ t → t < j2 → 48 ≤ byt s t ∧ byt s t ≤ 57) (h2 : j1 + 1 < j2) (h19 : j2 ≤ j1 + 1 + 19) (hj2 : j2 < s.size) (h93 : byt s j2 = 93) :
    Calls Tryd.prog 8 #[.string s, .int .i64 q] w fun e w' => e = .returned (.tuple #[.string l, .int .i64 (wrap64 (dv (byt s) (j1 + 1) (j2 - (j1 + 1)))), .int .i64 (j2 + 1), .bool true]) ∧ w' = w := by
  subst hq
  have HNO : Hid (∀ t, k ≤ t → t < j1 → byt s t ≠ 91) := hno
  have HDG : Hid (∀ t, j1 + 1 ≤ t → t < j2 → 48 ≤ byt s t ∧ byt s t ≤ 57) := hdg
  have HL : Hid (s.extract k j1 = l) := hl
  clear hno hdg hl
  go_enter Tryd.func8, Tryd.ntmps8
  go_wp2
  go_loop [8] (fun i => ∃ t : Nat, k ≤ t ∧ t ≤ j1 ∧ i = .int .i64 t) (fun i => s.size - (intOf i).toNat)
  case atStart => exact ⟨k, Nat.le_refl _, hk, rfl⟩
  case round =>
    obtain ⟨t, ht1, ht2, rfl⟩ := hrel
    by_cases hlt : t < j1
    · have hx := byt_at s t (by omega)
      have hts : t < s.size := by omega
      have hne := HNO.out t ht1 hlt
      go_wp2
      go_round
      case rel => exact ⟨t + 1, by omega, by omega, by go_num⟩
      case measure => simp [intOf]; omega
    · obtain rfl : t = j1 := by omega
      have hx := byt_at s t (by omega)
      have hx1 := byt_at s (t + 1) (by omega)
      have hts1 : t + 1 < s.size := by omega
      have hd1 := HDG.out (t + 1) (by omega) h2
      go_wp2
      clear hx hx1
      go_loop [8, 11, 12] (fun i u d => ∃ p m : Nat, t + 1 + m ≤ p ∧ p ≤ t + 1 + m ∧ p ≤ j2 ∧ i = .int .i64 p ∧ u = .int .u64 (dv (byt s) (t + 1) m) ∧ d = .int .i64 m) (fun i _ _ => s.size - (intOf i).toNat)
      case atStart => exact ⟨t + 1, 0, by omega, by omega, by omega, by go_num, rfl, rfl⟩
      case round =>
        obtain ⟨p, m, hp1, hp2, hp3, rfl, rfl, rfl⟩ := hrel
        have hx := byt_at s p (by omega)
        have hts : p < s.size := by omega
        have hdm : ∀ r, r < m → 48 ≤ byt s (t + 1 + r) ∧ byt s (t + 1 + r) ≤ 57 := fun r hr => HDG.out (t + 1 + r) (by omega) (by omega)
        by_cases hlt2 : p < j2
        · have hd := HDG.out p (by omega) hlt2
          have hv := dv_le18 (byt s) (t + 1) m (by omega) hdm
          clear hdm
          have h93' : Hid (byt s j2 = 93) := h93
          have hne93 : byt s p ≠ 93 := by omega
          clear h93 h91
          go_wp2
          go_round
          case rel => exact ⟨p + 1, m + 1, by omega, by omega, by omega, by go_num, by rw [dv_next (byt s) (t + 1) m p (by omega)], by go_num⟩
          case measure => simp [intOf]; omega
        · obtain rfl : p = j2 := by omega
          have hm1 : 1 ≤ m := by omega
          have hm0 : ((m : Int) == 0) = false := by simp; omega
          clear hdm
          go_wp2
          have HE : Hid (dv (byt s) (t + 1) m = dv (byt s) (t + 1) (p - (t + 1))) := by rw [show p - (t + 1) = m from by omega]; exact rfl
          refine bodyPost_ret (v := .tuple #[.string (s.extract k t), .int .i64 (wrap64 (dv (byt s) (t + 1) m)), .int .i64 ((p : Int) + 1), .bool true]) (by simp [results, Tryd.results8, go_sem]) rfl ⟨?_, rfl⟩
          rw [HL.out, HE.out]
set_option maxRecDepth 20000 in
set_option maxHeartbeats 2000000 in
theorem readStep_neg (s l : ByteArray) (k j1 j2 : Nat) (q : Int) (w : World) (hq : q = (k : Int)) (hs : s.size ≤ 4194304) (hk : k ≤ j1) (hj1 : j1 < s.size)
    (hno : ∀ t, k ≤ t → t < j1 → byt s t ≠ 91) (h91 : byt s j1 = 91) (hl : s.extract k j1 = l) (h45 : byt s (j1 + 1) = 45)
    (hdg : ∀ t, j1 + 2 ≤ t → t < j2 → 48 ≤ byt s t ∧ byt s t ≤ 57) (h2 : j1 + 2 < j2) (h19 : j2 ≤ j1 + 2 + 19) (hj2 : j2 < s.size) (h93 : byt s j2 = 93) :
    Calls Tryd.prog 8 #[.string s, .int .i64 q] w fun e w' => e = .returned (.tuple #[.string l, .int .i64 (wrap64 (-wrap64 (dv (byt s) (j1 + 2) (j2 - (j1 + 2))))), .int .i64 (j2 + 1), .bool true]) ∧ w' = w := by
  subst hq
  have HNO : Hid (∀ t, k ≤ t → t < j1 → byt s t ≠ 91) := hno
  have HDG : Hid (∀ t, j1 + 2 ≤ t → t < j2 → 48 ≤ byt s t ∧ byt s t ≤ 57) := hdg
  have HL : Hid (s.extract k j1 = l) := hl
  clear hno hdg hl
  go_enter Tryd.func8, Tryd.ntmps8
  go_wp2
  go_loop [8] (fun i => ∃ t : Nat, k ≤ t ∧ t ≤ j1 ∧ i = .int .i64 t) (fun i => s.size - (intOf i).toNat)
  case atStart => exact ⟨k, Nat.le_refl _, hk, rfl⟩
  case round =>
    obtain ⟨t, ht1, ht2, rfl⟩ := hrel
    by_cases hlt : t < j1
    · have hx := byt_at s t (by omega)
      have hts : t < s.size := by omega
      have hne := HNO.out t ht1 hlt
      go_wp2
      go_round
      case rel => exact ⟨t + 1, by omega, by omega, by go_num⟩
      case measure => simp [intOf]; omega
    · obtain rfl : t = j1 := by omega
      have hx := byt_at s t (by omega)
      have hx1 := byt_at s (t + 1) (by omega)
      have hts1 : t + 1 < s.size := by omega
      go_wp2
      clear hx hx1
      go_loop [8, 11, 12] (fun i u d => ∃ p m : Nat, t + 2 + m ≤ p ∧ p ≤ t + 2 + m ∧ p ≤ j2 ∧ i = .int .i64 p ∧ u = .int .u64 (dv (byt s) (t + 2) m) ∧ d = .int .i64 m) (fun i _ _ => s.size - (intOf i).toNat)
      case atStart => exact ⟨t + 2, 0, by omega, by omega, by omega, by go_num, rfl, rfl⟩
      case round =>
        obtain ⟨p, m, hp1, hp2, hp3, rfl, rfl, rfl⟩ := hrel
        have hx := byt_at s p (by omega)
        have hts : p < s.size := by omega
        have hdm : ∀ r, r < m → 48 ≤ byt s (t + 2 + r) ∧ byt s (t + 2 + r) ≤ 57 := fun r hr => HDG.out (t + 2 + r) (by omega) (by omega)
        by_cases hlt2 : p < j2
        · have hd := HDG.out p (by omega) hlt2
          have hv := dv_le18 (byt s) (t + 2) m (by omega) hdm
          clear hdm
          have h93' : Hid (byt s j2 = 93) := h93
          have hne93 : byt s p ≠ 93 := by omega
          clear h93 h91
          go_wp2
          go_round
          case rel => exact ⟨p + 1, m + 1, by omega, by omega, by omega, by go_num, by rw [dv_next (byt s) (t + 2) m p (by omega)], by go_num⟩
          case measure => simp [intOf]; omega
        · obtain rfl : p = j2 := by omega
          have hm1 : 1 ≤ m := by omega
          have hm0 : ((m : Int) == 0) = false := by simp; omega
          clear hdm
          go_wp2
          have HE : Hid (dv (byt s) (t + 2) m = dv (byt s) (t + 2) (p - (t + 2))) := by rw [show p - (t + 2) = m from by omega]; exact rfl
          refine bodyPost_ret (v := .tuple #[.string (s.extract k t), .int .i64 (wrap64 (-wrap64 (dv (byt s) (t + 2) m))), .int .i64 ((p : Int) + 1), .bool true]) (by simp [results, Tryd.results8, go_sem]) rfl ⟨?_, rfl⟩
          rw [HL.out, HE.out]
end Go.Proofs.Qxb6605582aDoor
