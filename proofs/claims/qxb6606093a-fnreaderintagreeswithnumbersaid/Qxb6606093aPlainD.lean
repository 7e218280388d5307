/-
  PLAIN: a number of digits alone, read by number and by Int.
-/
import Derived.Test.Qxb6606093aPlainB
import Derived.Test.Qxb6606093aPlainC
namespace Go.Proofs.Qxb6606093a.Num
set_option linter.unusedVariables false

theorem tail2_le (b : Nat → Int) (n j : Nat) (hj : j ≤ n) : tail2 b n j = -1 ∨ (j : Int) ≤ tail2 b n j := by
  unfold tail2
  split
  · split
    · split
      · exact .inl rfl
      · have := dEnd_le b n (j + 2) (by omega); right; omega
    · split
      · exact .inl rfl
      · have := dEnd_le b n (j + 1) (by omega); right; omega
  · exact .inr (Int.le_refl _)

theorem tail2_exp (b : Nat → Int) (n j : Nat) (hj : j < n) (he : b j = 101 ∨ b j = 69) : tail2 b n j = -1 ∨ (j : Int) < tail2 b n j := by
  unfold tail2
  rw [if_pos ⟨hj, he⟩]
  split
  · split
    · exact .inl rfl
    · have := dEnd_le b n (j + 2) (by omega); right; omega
  · split
    · exact .inl rfl
    · have := dEnd_le b n (j + 1) (by omega); right; omega

/-- a fraction or an exponent behind the digits: the number goes on, or is none -/
theorem tail1_del (b : Nat → Int) (n j : Nat) (hj : j < n) (h : b j = 46 ∨ b j = 101 ∨ b j = 69) : tail1 b n j = -1 ∨ (j : Int) < tail1 b n j := by
  unfold tail1
  by_cases h46 : b j = 46
  · rw [if_pos ⟨hj, h46⟩]
    split
    · exact .inl rfl
    · have h1 := dEnd_le b n (j + 1) (by omega)
      rcases tail2_le b n (dEnd b n (j + 1)) h1.2 with e | e
      · exact .inl e
      · right; omega
  · rw [if_neg (fun e => h46 e.2)]
    exact tail2_exp b n j hj (by omega)

/-- nothing more behind the digits -/
theorem tail1_stop (b : Nat → Int) (n j : Nat) (h : ¬ (j < n ∧ (b j = 46 ∨ b j = 101 ∨ b j = 69))) : tail1 b n j = j := by
  unfold tail1
  rw [if_neg (fun e => h ⟨e.1, .inl e.2⟩)]
  unfold tail2
  rw [if_neg (fun e => h ⟨e.1, .inr e.2⟩)]

/-- digits at the start: the number's answer is the tail's behind the first digit, if that is 0, else behind all of them -/
theorem num_digs (b : Nat → Int) (n : Nat) (h0 : 0 < n) (hk : 0 < dEnd b n 0) : num b n 0 = if b 0 = 48 then tail1 b n 1 else tail1 b n (dEnd b n 0) := by
  have hd := dEnd_digs b n 0 hk
  have hn45 : ¬ b 0 = 45 := by omega
  unfold num
  rw [if_neg hn45]
  unfold tail0
  rw [if_pos h0]
  by_cases h48 : b 0 = 48
  · rw [if_pos h48, if_pos h48]
  · rw [if_neg h48, if_neg h48, if_pos ⟨by omega, hd.2⟩]
    rw [← dEnd_yes b n 0 h0 hd.1 hd.2]

/-- where Int accepts, number ends behind the same digits -/
theorem acc_num (b : Nat → Int) (n : Nat) (h0 : 0 < n) (h : Acc b n) : num b n 0 = (dEnd b n 0 : Int) := by
  obtain ⟨hbad, -⟩ := h
  have hk : 0 < dEnd b n 0 := by
    have : ¬ dEnd b n 0 = 0 := fun e => hbad (.inl e)
    omega
  rw [num_digs b n h0 hk]
  have hdel : ¬ (dEnd b n 0 < n ∧ (b (dEnd b n 0) = 46 ∨ b (dEnd b n 0) = 101 ∨ b (dEnd b n 0) = 69)) := fun e => hbad (.inr (.inr e))
  by_cases h48 : b 0 = 48
  · have h1 : dEnd b n 0 = 1 := by
      have : ¬ 1 < dEnd b n 0 := fun e => hbad (.inr (.inl ⟨e, h48⟩))
      omega
    rw [if_pos h48]
    rw [h1] at hdel ⊢
    exact tail1_stop b n 1 hdel
  · rw [if_neg h48]
    exact tail1_stop b n _ hdel

/-- where Int refuses and number finds a run of at most 18 digits, a digit follows -/
theorem ref_num (b : Nat → Int) (n j : Nat) (h0 : 0 < n) (h : ¬ Acc b n) (hj : num b n 0 = (j : Int)) (h1 : 1 ≤ j) (h18 : j ≤ 18) (hd : Digs b j) : j < n ∧ 48 ≤ b j ∧ b j ≤ 57 := by
  have hkn := dEnd_le b n 0 (Nat.zero_le _)
  have hr := num_range b n 0 h0
  have hjn : j ≤ n := by omega
  -- j is no more than the run
  have hjk : j ≤ dEnd b n 0 := by
    refine Classical.byContradiction fun hc => ?_
    have := dEnd_stop b n 0 (by omega)
    exact this (hd _ (by omega))
  by_cases hlt : j < dEnd b n 0
  · exact ⟨by omega, dEnd_digs b n j hlt⟩
  · exfalso
    have hk : j = dEnd b n 0 := by omega
    have hk0 : 0 < dEnd b n 0 := by omega
    have hnum := num_digs b n h0 hk0
    apply h
    refine ⟨?_, ?_⟩
    · rintro (e | ⟨e1, e2⟩ | ⟨e1, e2⟩)
      · omega
      · rw [if_pos e2] at hnum
        have hb1 := dEnd_digs b n 1 e1
        rw [tail1_stop b n 1 (by omega)] at hnum
        omega
      · by_cases h48 : b 0 = 48
        · rw [if_pos h48] at hnum
          by_cases hone : dEnd b n 0 = 1
          · rw [hone] at e1 e2
            rcases tail1_del b n 1 e1 e2 with e | e <;> omega
          · have hb1 := dEnd_digs b n 1 (by omega)
            rw [tail1_stop b n 1 (by omega)] at hnum
            omega
        · rw [if_neg h48] at hnum
          rcases tail1_del b n _ e1 e2 with e | e <;> omega
    · have := short_fits b (dEnd b n 0) (by omega) (dEnd_digs b n)
      omega
end Go.Proofs.Qxb6606093a.Num
