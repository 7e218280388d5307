/-
  PLAIN: the number's answer lies behind its start, is shifted with its bytes, and hangs on its own bytes alone.
-/
import Derived.Test.Qxb6606093aPlain
namespace Go.Proofs.Qxb6606093a.Num

theorem fin_cases (st : Int) (p : Nat) : fin st p = -1 ∨ fin st p = p := by
  unfold fin; split
  · exact .inr rfl
  · exact .inl rfl

theorem auto_range (b : Nat → Int) (f : Nat) (st : Int) (p : Nat) : auto b f st p = -1 ∨ ((p : Int) ≤ auto b f st p ∧ auto b f st p ≤ (p + f : Nat)) := by
  induction f generalizing st p with
  | zero =>
    show fin st p = -1 ∨ _
    rcases fin_cases st p with h | h
    · exact .inl h
    · right; show (p : Int) ≤ fin st p ∧ fin st p ≤ _; rw [h]; omega
  | succ f ih =>
    simp only [auto]
    split
    · rcases fin_cases st p with h | h
      · exact .inl h
      · right; rw [h]; omega
    · rcases ih (nstep st (b p)) (p + 1) with h | h
      · exact .inl h
      · right; omega

theorem auto_shift (b : Nat → Int) (i f : Nat) (st : Int) (p : Nat) : auto (fun k => b (i + k)) f st p = if auto b f st (i + p) = -1 then -1 else auto b f st (i + p) - i := by
  have hfin : fin st p = if fin st (i + p) = -1 then -1 else fin st (i + p) - i := by
    unfold fin
    split
    · rw [if_neg (by omega)]; omega
    · rfl
  induction f generalizing st p with
  | zero => exact hfin
  | succ f ih =>
    simp only [auto]
    split
    · exact hfin
    · have := ih (nstep st (b (i + p))) (p + 1) (by
        unfold fin
        split
        · rw [if_neg (by omega)]; omega
        · rfl)
      rw [show i + (p + 1) = i + p + 1 from by omega] at this
      exact this

theorem auto_cut (b : Nat → Int) (f : Nat) (st : Int) (p j : Nat) (h : auto b f st p = (j : Int)) : auto b (j - p) st p = (j : Int) := by
  induction f generalizing st p with
  | zero =>
    have h' : fin st p = (j : Int) := h
    have hp : j = p := by rcases fin_cases st p with e | e <;> omega
    subst hp
    rw [Nat.sub_self]; exact h'
  | succ f ih =>
    by_cases hs : nstep st (b p) < 0
    · have h' : fin st p = (j : Int) := by simpa [auto, hs] using h
      have hp : j = p := by rcases fin_cases st p with e | e <;> omega
      subst hp
      rw [Nat.sub_self]; exact h'
    · have h' : auto b f (nstep st (b p)) (p + 1) = (j : Int) := by simpa [auto, hs] using h
      have hr := auto_range b f (nstep st (b p)) (p + 1)
      have hj : p + 1 ≤ j := by omega
      have := ih _ _ h'
      rw [show j - p = (j - (p + 1)) + 1 from by omega]
      simp only [auto]
      rw [if_neg hs]; exact this

/-- the answer is -1 or lies in (i, n] -/
theorem num_range (b : Nat → Int) (n i : Nat) (h : i < n) : num b n i = -1 ∨ ((i : Int) < num b n i ∧ num b n i ≤ n) := by
  rw [num_run b n i h]
  unfold run
  obtain ⟨f, hf⟩ : ∃ f, n - i = f + 1 := ⟨n - i - 1, by omega⟩
  rw [hf]
  simp only [auto]
  split
  · left; unfold fin; rw [if_neg (by omega)]
  · rcases auto_range b f (nstep 0 (b i)) (i + 1) with e | e
    · exact .inl e
    · right; omega

/-- the bytes ahead of it cut off -/
theorem num_shift (b : Nat → Int) (n i : Nat) (h : i < n) : num (fun k => b (i + k)) (n - i) 0 = if num b n i = -1 then -1 else num b n i - i := by
  rw [num_run _ _ _ (by omega), num_run b n i h]
  unfold run
  rw [Nat.sub_zero, auto_shift b i (n - i) 0 0, Nat.add_zero]

/-- the bytes behind it cut off -/
theorem num_cut (b : Nat → Int) (n i j : Nat) (h : i < n) (hj : num b n i = (j : Int)) : num b j i = (j : Int) := by
  have hr := num_range b n i h
  rw [num_run b n i h] at hj
  rw [num_run b j i (by rw [num_run b n i h] at hr; omega)]
  exact auto_cut b _ 0 i j hj
end Go.Proofs.Qxb6606093a.Num
