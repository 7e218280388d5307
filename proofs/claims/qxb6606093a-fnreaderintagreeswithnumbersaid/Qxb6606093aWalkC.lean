/-
  THE WALK of number (22), part by part: the ways meet behind the sign, the integer part, the fraction.
-/
import Derived.Test.Qxb6606093aWalkA
import Derived.Deep.DeepCutAuto
import Derived.Deep.CutBlock
namespace Go.Proofs.Qxb6606093a
open Go.ChangeShapes Go.WideShapes Go.ChangeAt Go.RowKit
open Num
set_option linter.unusedVariables false

/-! ### THE STEPS, outside the walk -/
theorem num_minus {b : Nat → Int} {n i : Nat} (h : b i = 45) : num b n i = tail0 b n (i + 1) := by unfold num; rw [if_pos h]
theorem num_plain {b : Nat → Int} {n i : Nat} (h : ¬ b i = 45) : num b n i = tail0 b n i := by unfold num; rw [if_neg h]
theorem t0_end {b : Nat → Int} {n i : Nat} (h : ¬ i < n) : tail0 b n i = -1 := by unfold tail0; rw [if_neg h]
theorem t0_zero {b : Nat → Int} {n i : Nat} (h : i < n) (h1 : b i = 48) : tail0 b n i = tail1 b n (i + 1) := by unfold tail0; rw [if_pos h, if_pos h1]
theorem t0_dig {b : Nat → Int} {n i : Nat} (h : i < n) (h1 : 49 ≤ b i) (h2 : b i ≤ 57) : tail0 b n i = tail1 b n (dEnd b n (i + 1)) := by
  unfold tail0; rw [if_pos h, if_neg (by omega), if_pos ⟨h1, h2⟩]
theorem t0_bad {b : Nat → Int} {n i : Nat} (h : i < n) (h1 : ¬ b i = 48) (h2 : ¬ (49 ≤ b i ∧ b i ≤ 57)) : tail0 b n i = -1 := by
  unfold tail0; rw [if_pos h, if_neg h1, if_neg h2]
theorem t1_no {b : Nat → Int} {n j : Nat} (h : ¬ (j < n ∧ b j = 46)) : tail1 b n j = tail2 b n j := by unfold tail1; rw [if_neg h]
theorem t1_bad {b : Nat → Int} {n j : Nat} (h : j < n) (h1 : b j = 46) (h2 : dEnd b n (j + 1) = j + 1) : tail1 b n j = -1 := by unfold tail1; rw [if_pos ⟨h, h1⟩, if_pos h2]
theorem t1_yes {b : Nat → Int} {n j : Nat} (h : j < n) (h1 : b j = 46) (h2 : ¬ dEnd b n (j + 1) = j + 1) : tail1 b n j = tail2 b n (dEnd b n (j + 1)) := by
  unfold tail1; rw [if_pos ⟨h, h1⟩, if_neg h2]
theorem t2_no {b : Nat → Int} {n j : Nat} (h : ¬ (j < n ∧ (b j = 101 ∨ b j = 69))) : tail2 b n j = j := by unfold tail2; rw [if_neg h]
/-- the exponent's digits from p on -/
def expo (b : Nat → Int) (n p : Nat) : Int := if dEnd b n p = p then -1 else (dEnd b n p : Int)
theorem t2_sign {b : Nat → Int} {n j : Nat} (h : j < n) (h1 : b j = 101 ∨ b j = 69) (h2 : j + 1 < n) (h3 : b (j + 1) = 43 ∨ b (j + 1) = 45) : tail2 b n j = expo b n (j + 2) := by
  unfold tail2 expo; rw [if_pos ⟨h, h1⟩, if_pos ⟨h2, h3⟩]
theorem t2_bare {b : Nat → Int} {n j : Nat} (h : j < n) (h1 : b j = 101 ∨ b j = 69) (h2 : ¬ (j + 1 < n ∧ (b (j + 1) = 43 ∨ b (j + 1) = 45))) : tail2 b n j = expo b n (j + 1) := by
  unfold tail2 expo; rw [if_pos ⟨h, h1⟩, if_neg h2]

/-- digits, its argument spelt as the caller spells it -/
theorem digits_at (b : Nat → Int) (bl off n cap p : Nat) (q : Int) (w : World) (hq : q = (p : Int)) (hn : n ≤ 1048576) (hp : p ≤ n)
    (hc : ∀ k, k < n → w.cell? ⟨bl, off + k, none⟩ = some (.int .u8 (b k))) :
    Calls Try.prog 23 #[.slice (some ⟨bl, off, none⟩) n cap, .int .i64 q] w fun e w' => e = .returned (.int .i64 (dEnd b n p)) ∧ w = w' := by
  subst hq; exact digits_any b bl off n cap p w hn hp hc

set_option maxRecDepth 20000 in
set_option maxHeartbeats 2000000 in
theorem num_any (b : Nat → Int) (bl off n cap i : Nat) (w : World) (hn : n ≤ 1048576) (hi : i < n)
    (hc : ∀ k, k < n → w.cell? ⟨bl, off + k, none⟩ = some (.int .u8 (b k))) :
    Calls Try.prog 22 #[.slice (some ⟨bl, off, none⟩) n cap, .int .i64 i] w fun e w' => e = .returned (.int .i64 (num b n i)) ∧ w = w' := by
  have hci := hc i hi
  go_enter Try.func22, Try.ntmps22
  go_upto_if 11 with fail
  go_cut [1] (fun s wx => w = wx ∧ ∃ j : Nat, s = .int .i64 j ∧ j ≤ n ∧ Hid (num b n i = tail0 b n j))
  case first =>
    by_cases hm : b i = 45
    · have HE : Hid (num b n i = tail0 b n (i + 1)) := num_minus hm
      go_wp2_with fail
      go_meet
      exact ⟨rfl, i + 1, by go_num, by omega, HE⟩
    · have HE : Hid (num b n i = tail0 b n i) := num_plain hm
      go_wp2_with fail
      go_meet
      exact ⟨rfl, i, by go_num, by omega, HE⟩
  case rest =>
    obtain ⟨hw, j, rfl, hj, H0⟩ := hcut
    subst hw
    clear hci
    go_step
    go_step
    go_cut [1] (fun s wx => w = wx ∧ ∃ j : Nat, s = .int .i64 j ∧ j ≤ n ∧ Hid (num b n i = tail1 b n j))
    case first =>
      by_cases hjn : j < n
      · have hcj := hc j hjn
        by_cases hz : b j = 48
        · have HE : Hid (num b n i = tail1 b n (j + 1)) := H0.out.trans (t0_zero hjn hz)
          go_wp2_with fail
          go_meet
          exact ⟨rfl, j + 1, by go_num, by omega, HE⟩
        · by_cases h1 : 49 ≤ b j
          · by_cases h2 : b j ≤ 57
            · have HE : Hid (num b n i = tail1 b n (dEnd b n (j + 1))) := H0.out.trans (t0_dig hjn h1 h2)
              have hde := dEnd_le b n (j + 1) (by omega)
              have HD : Hid (dEnd b n j = dEnd b n (j + 1)) := dEnd_yes b n j hjn (by omega) h2
              go_wp2_with (go_at_call 23; refine (digits_at b bl off n cap j _ _ (by omega) (by omega) (by omega) (by assumption)).mono ?_; rintro e w' ⟨rfl, rfl⟩)
              go_meet
              exact ⟨rfl, dEnd b n (j + 1), by rw [HD.out], hde.2, HE⟩
            · have HE : Hid (num b n i = -1) := H0.out.trans (t0_bad hjn hz (by omega))
              go_wp2_with fail
              go_ret
              exact ⟨ret_int HE.out.symm, rfl⟩
          · have HE : Hid (num b n i = -1) := H0.out.trans (t0_bad hjn hz (by omega))
            go_wp2_with fail
            go_ret
            exact ⟨ret_int HE.out.symm, rfl⟩
      · have HE : Hid (num b n i = -1) := H0.out.trans (t0_end hjn)
        go_wp2_with fail
        go_ret
        exact ⟨ret_int HE.out.symm, rfl⟩
    case rest =>
      obtain ⟨hw, j1, rfl, hj1, H1⟩ := hcut
      subst hw
      clear H0 hj
      go_step
      go_step
      go_cut [1] (fun s wx => w = wx ∧ ∃ j : Nat, s = .int .i64 j ∧ j ≤ n ∧ Hid (num b n i = tail2 b n j))
      case first =>
        by_cases hjn : j1 < n
        · have hcj := hc j1 hjn
          by_cases hz : b j1 = 46
          · have hde := dEnd_le b n (j1 + 1) (by omega)
            by_cases hd : dEnd b n (j1 + 1) = j1 + 1
            · have HE : Hid (num b n i = -1) := H1.out.trans (t1_bad hjn hz hd)
              have hbool : ((dEnd b n (j1 + 1) : Int) == (j1 : Int) + 1) = true := by simp; omega
              clear hd
              go_wp2_with (go_at_call 23; refine (digits_at b bl off n cap (j1 + 1) _ _ (by omega) (by omega) (by omega) (by assumption)).mono ?_; rintro e w' ⟨rfl, rfl⟩)
              go_ret
              exact ⟨ret_int HE.out.symm, rfl⟩
            · have HE : Hid (num b n i = tail2 b n (dEnd b n (j1 + 1))) := H1.out.trans (t1_yes hjn hz hd)
              have hbool : ((dEnd b n (j1 + 1) : Int) == (j1 : Int) + 1) = false := by simp; omega
              clear hd
              go_wp2_with (go_at_call 23; refine (digits_at b bl off n cap (j1 + 1) _ _ (by omega) (by omega) (by omega) (by assumption)).mono ?_; rintro e w' ⟨rfl, rfl⟩)
              go_meet
              exact ⟨rfl, _, rfl, hde.2, HE⟩
          · have HE : Hid (num b n i = tail2 b n j1) := H1.out.trans (t1_no (by omega))
            go_wp2_with fail
            go_meet
            exact ⟨rfl, _, rfl, hj1, HE⟩
        · have HE : Hid (num b n i = tail2 b n j1) := H1.out.trans (t1_no (by omega))
          go_wp2_with fail
          go_meet
          exact ⟨rfl, _, rfl, hj1, HE⟩
      case rest =>
        obtain ⟨hw, j2, rfl, hj2, H2⟩ := hcut
        subst hw
        clear H1 hj1
        have fin : ∀ p, p ≤ n → num b n i = expo b n p → (dEnd b n p = p ∧ num b n i = -1) ∨ (¬ dEnd b n p = p ∧ num b n i = dEnd b n p) := by
          intro p hp h
          unfold expo at h
          by_cases hd : dEnd b n p = p
          · rw [if_pos hd] at h; exact .inl ⟨hd, h⟩
          · rw [if_neg hd] at h; exact .inr ⟨hd, h⟩
        by_cases hjn : j2 < n
        · have hcj := hc j2 hjn
          by_cases he : b j2 = 101 ∨ b j2 = 69
          · by_cases hs1 : j2 + 1 < n
            · have hcs := hc (j2 + 1) hs1
              by_cases hs : b (j2 + 1) = 43 ∨ b (j2 + 1) = 45
              · have H3 : Hid (num b n i = expo b n (j2 + 2)) := H2.out.trans (t2_sign hjn he hs1 hs)
                have hde := dEnd_le b n (j2 + 2) (by omega)
                rcases he with he | he <;> rcases hs with hs | hs
                all_goals
                  rcases fin (j2 + 2) (by omega) H3.out with ⟨hd, hr⟩ | ⟨hd, hr⟩
                  · have HE : Hid (num b n i = -1) := hr
                    have hbool : ((dEnd b n (j2 + 2) : Int) == (j2 : Int) + 1 + 1) = true := by simp; omega
                    clear hd hr H3 fin H2
                    go_wp2_with (go_at_call 23; refine (digits_at b bl off n cap (j2 + 2) _ _ (by omega) (by omega) (by omega) (by assumption)).mono ?_; rintro e w' ⟨rfl, rfl⟩)
                    go_ret
                    exact ⟨ret_int HE.out.symm, rfl⟩
                  · have HE : Hid (num b n i = dEnd b n (j2 + 2)) := hr
                    have hbool : ((dEnd b n (j2 + 2) : Int) == (j2 : Int) + 1 + 1) = false := by simp; omega
                    clear hd hr H3 fin H2
                    go_wp2_with (go_at_call 23; refine (digits_at b bl off n cap (j2 + 2) _ _ (by omega) (by omega) (by omega) (by assumption)).mono ?_; rintro e w' ⟨rfl, rfl⟩)
                    go_ret
                    exact ⟨ret_int HE.out.symm, rfl⟩
              · have H3 : Hid (num b n i = expo b n (j2 + 1)) := H2.out.trans (t2_bare hjn he (by omega))
                have hde := dEnd_le b n (j2 + 1) (by omega)
                have r1 : (b (j2 + 1) == 43) = false := by simp; omega
                have r2 : (b (j2 + 1) == 45) = false := by simp; omega
                clear hs
                rcases he with he | he
                all_goals
                  rcases fin (j2 + 1) (by omega) H3.out with ⟨hd, hr⟩ | ⟨hd, hr⟩
                  · have HE : Hid (num b n i = -1) := hr
                    have hbool : ((dEnd b n (j2 + 1) : Int) == (j2 : Int) + 1) = true := by simp; omega
                    clear hd hr H3 fin H2
                    go_wp2_with (go_at_call 23; refine (digits_at b bl off n cap (j2 + 1) _ _ (by omega) (by omega) (by omega) (by assumption)).mono ?_; rintro e w' ⟨rfl, rfl⟩)
                    go_ret
                    exact ⟨ret_int HE.out.symm, rfl⟩
                  · have HE : Hid (num b n i = dEnd b n (j2 + 1)) := hr
                    have hbool : ((dEnd b n (j2 + 1) : Int) == (j2 : Int) + 1) = false := by simp; omega
                    clear hd hr H3 fin H2
                    go_wp2_with (go_at_call 23; refine (digits_at b bl off n cap (j2 + 1) _ _ (by omega) (by omega) (by omega) (by assumption)).mono ?_; rintro e w' ⟨rfl, rfl⟩)
                    go_ret
                    exact ⟨ret_int HE.out.symm, rfl⟩
            · have H3 : Hid (num b n i = expo b n (j2 + 1)) := H2.out.trans (t2_bare hjn he (by omega))
              have hde := dEnd_le b n (j2 + 1) (by omega)
              rcases he with he | he
              all_goals
                rcases fin (j2 + 1) (by omega) H3.out with ⟨hd, hr⟩ | ⟨hd, hr⟩
                · have HE : Hid (num b n i = -1) := hr
                  have hbool : ((dEnd b n (j2 + 1) : Int) == (j2 : Int) + 1) = true := by simp; omega
                  clear hd hr H3 fin H2
                  go_wp2_with (go_at_call 23; refine (digits_at b bl off n cap (j2 + 1) _ _ (by omega) (by omega) (by omega) (by assumption)).mono ?_; rintro e w' ⟨rfl, rfl⟩)
                  go_ret
                  exact ⟨ret_int HE.out.symm, rfl⟩
                · have HE : Hid (num b n i = dEnd b n (j2 + 1)) := hr
                  have hbool : ((dEnd b n (j2 + 1) : Int) == (j2 : Int) + 1) = false := by simp; omega
                  clear hd hr H3 fin H2
                  go_wp2_with (go_at_call 23; refine (digits_at b bl off n cap (j2 + 1) _ _ (by omega) (by omega) (by omega) (by assumption)).mono ?_; rintro e w' ⟨rfl, rfl⟩)
                  go_ret
                  exact ⟨ret_int HE.out.symm, rfl⟩
          · have HE : Hid (num b n i = j2) := H2.out.trans (t2_no (by omega))
            have r1 : (b j2 == 101) = false := by simp; omega
            have r2 : (b j2 == 69) = false := by simp; omega
            clear he H2
            go_wp2_with fail
            go_ret
            exact ⟨ret_int HE.out.symm, rfl⟩
        · have HE : Hid (num b n i = j2) := H2.out.trans (t2_no (by omega))
          clear H2
          go_wp2_with fail
          go_ret
          exact ⟨ret_int HE.out.symm, rfl⟩

/-- ZZNumber (10), its arguments spelt as a caller spells them -/
theorem zzNum_any (b : Nat → Int) (bl off n cap i : Nat) (q : Int) (w : World) (hq : q = (i : Int)) (hn : n ≤ 1048576) (hi : i < n)
    (hc : ∀ k, k < n → w.cell? ⟨bl, off + k, none⟩ = some (.int .u8 (b k))) :
    Calls Try.prog 10 #[.slice (some ⟨bl, off, none⟩) n cap, .int .i64 q] w fun e w' => e = .returned (.int .i64 (num b n i)) ∧ w = w' := by
  subst hq
  go_enter Try.func10, Try.ntmps10
  go_wp2_with (go_at_call 22; refine (num_any b bl off n cap i _ hn hi (by assumption)).mono ?_; rintro e w' ⟨rfl, rfl⟩)
  go_ret
  exact ⟨rfl, rfl⟩
end Go.Proofs.Qxb6606093a
