/-
  PLAIN MATHEMATICS: numbers of JSON over bytes 'b : Nat → Int' (n of them). Nothing of the program is imported.
-/
namespace Go.Proofs.Qxb6606093a.Num

/-- one step of the number automaton -/
def nstep (st c : Int) : Int :=
  if st = 0 then (if c = 45 then 1 else if c = 48 then 2 else if 48 ≤ c ∧ c ≤ 57 then 3 else -1)
  else if st = 1 then (if c = 48 then 2 else if 48 ≤ c ∧ c ≤ 57 then 3 else -1)
  else if st = 2 then (if c = 46 then 4 else if c = 101 ∨ c = 69 then 6 else -1)
  else if st = 3 then (if 48 ≤ c ∧ c ≤ 57 then 3 else if c = 46 then 4 else if c = 101 ∨ c = 69 then 6 else -1)
  else if st = 4 then (if 48 ≤ c ∧ c ≤ 57 then 5 else -1)
  else if st = 5 then (if 48 ≤ c ∧ c ≤ 57 then 5 else if c = 101 ∨ c = 69 then 6 else -1)
  else if st = 6 then (if c = 43 ∨ c = 45 then 7 else if 48 ≤ c ∧ c ≤ 57 then 8 else -1)
  else if st = 7 then (if 48 ≤ c ∧ c ≤ 57 then 8 else -1)
  else if st = 8 then (if 48 ≤ c ∧ c ≤ 57 then 8 else -1)
  else -1

/-- where the automaton stops -/
def fin (st : Int) (p : Nat) : Int := if st = 2 ∨ st = 3 ∨ st = 5 ∨ st = 8 then (p : Int) else -1

/-- the automaton, with 'f' bytes left -/
def auto (b : Nat → Int) : Nat → Int → Nat → Int
  | 0, st, p => fin st p
  | f + 1, st, p => if nstep st (b p) < 0 then fin st p else auto b f (nstep st (b p)) (p + 1)

/-- the first place from p on that bears no digit, with 'f' bytes left -/
def dRun (b : Nat → Int) : Nat → Nat → Nat
  | 0, p => p
  | f + 1, p => if 48 ≤ b p ∧ b p ≤ 57 then dRun b f (p + 1) else p

def dEnd (b : Nat → Int) (n p : Nat) : Nat := dRun b (n - p) p

theorem dRun_le (b : Nat → Int) (f p : Nat) : p ≤ dRun b f p ∧ dRun b f p ≤ p + f := by
  induction f generalizing p with
  | zero => simp [dRun]
  | succ f ih =>
    simp only [dRun]
    split
    · have := ih (p + 1); omega
    · omega

theorem dEnd_le (b : Nat → Int) (n p : Nat) (h : p ≤ n) : p ≤ dEnd b n p ∧ dEnd b n p ≤ n := by
  have := dRun_le b (n - p) p
  unfold dEnd; omega

theorem dEnd_yes (b : Nat → Int) (n p : Nat) (h : p < n) (h1 : 48 ≤ b p) (h2 : b p ≤ 57) : dEnd b n p = dEnd b n (p + 1) := by
  unfold dEnd
  obtain ⟨f, hf⟩ : ∃ f, n - p = f + 1 := ⟨n - p - 1, by omega⟩
  rw [hf, show n - (p + 1) = f from by omega]
  simp [dRun, h1, h2]

theorem dEnd_no (b : Nat → Int) (n p : Nat) (h : p < n → ¬ (48 ≤ b p ∧ b p ≤ 57)) : dEnd b n p = p := by
  unfold dEnd
  cases hf : n - p with
  | zero => rfl
  | succ f => simp only [dRun]; rw [if_neg (h (by omega))]

theorem dRun_stop (b : Nat → Int) (f p : Nat) : dRun b f p < p + f → ¬ (48 ≤ b (dRun b f p) ∧ b (dRun b f p) ≤ 57) := by
  induction f generalizing p with
  | zero => simp [dRun]
  | succ f ih =>
    simp only [dRun]
    split
    · intro h; exact ih (p + 1) (by omega)
    · intro _ ; assumption

theorem dEnd_stop (b : Nat → Int) (n p : Nat) : dEnd b n p < n → ¬ (48 ≤ b (dEnd b n p) ∧ b (dEnd b n p) ≤ 57) := by
  by_cases hp : p ≤ n
  · intro h; exact dRun_stop b (n - p) p (by unfold dEnd at h; omega)
  · intro h
    have : dEnd b n p = p := dEnd_no b n p (by omega)
    omega

/-- the automaton from state st at place p -/
def run (b : Nat → Int) (n : Nat) (st : Int) (p : Nat) : Int := auto b (n - p) st p

theorem run_end (b : Nat → Int) (n : Nat) (st : Int) (p : Nat) (h : n ≤ p) : run b n st p = fin st p := by
  unfold run; rw [show n - p = 0 from by omega]; rfl

theorem run_stop (b : Nat → Int) (n : Nat) (st : Int) (p : Nat) (h : nstep st (b p) < 0) : run b n st p = fin st p := by
  unfold run
  cases n - p with
  | zero => rfl
  | succ f => simp [auto, h]

theorem run_step (b : Nat → Int) (n : Nat) (st st' : Int) (p : Nat) (hp : p < n) (h : nstep st (b p) = st') (h0 : 0 ≤ st') : run b n st p = run b n st' (p + 1) := by
  unfold run
  obtain ⟨f, hf⟩ : ∃ f, n - p = f + 1 := ⟨n - p - 1, by omega⟩
  rw [hf, show n - (p + 1) = f from by omega]
  simp only [auto, h]
  rw [if_neg (by omega)]

/-- a run of digits in a state that keeps itself at digits -/
theorem run_digits (b : Nat → Int) (n : Nat) (st : Int) (hst : st = 3 ∨ st = 5 ∨ st = 8) (p : Nat) : run b n st p = run b n st (dEnd b n p) := by
  by_cases hp : p < n
  · obtain ⟨f, hf⟩ : ∃ f, n - p = f := ⟨_, rfl⟩
    induction f generalizing p with
    | zero => omega
    | succ f ih =>
      by_cases hd : 48 ≤ b p ∧ b p ≤ 57
      · rw [dEnd_yes b n p hp hd.1 hd.2]
        have hs : nstep st (b p) = st := by rcases hst with rfl | rfl | rfl <;> simp [nstep, hd.1, hd.2]
        rw [run_step b n st st p hp hs (by omega)]
        by_cases hp' : p + 1 < n
        · exact ih (p + 1) hp' (by omega)
        · rw [dEnd_no b n (p + 1) (by omega)]
      · rw [dEnd_no b n p (fun _ => hd)]
  · rw [dEnd_no b n p (by omega)]

/-! ### THE READER, part by part, as the Go text has it -/
/-- behind the fraction: an exponent or none -/
def tail2 (b : Nat → Int) (n j : Nat) : Int :=
  if j < n ∧ (b j = 101 ∨ b j = 69) then
    if j + 1 < n ∧ (b (j + 1) = 43 ∨ b (j + 1) = 45) then
      if dEnd b n (j + 2) = j + 2 then -1 else (dEnd b n (j + 2) : Int)
    else if dEnd b n (j + 1) = j + 1 then -1 else (dEnd b n (j + 1) : Int)
  else (j : Int)

/-- behind the integer part: a fraction or none -/
def tail1 (b : Nat → Int) (n j : Nat) : Int :=
  if j < n ∧ b j = 46 then
    if dEnd b n (j + 1) = j + 1 then -1 else tail2 b n (dEnd b n (j + 1))
  else tail2 b n j

/-- behind the sign -/
def tail0 (b : Nat → Int) (n i : Nat) : Int :=
  if i < n then
    if b i = 48 then tail1 b n (i + 1)
    else if 49 ≤ b i ∧ b i ≤ 57 then tail1 b n (dEnd b n (i + 1))
    else -1
  else -1

def num (b : Nat → Int) (n i : Nat) : Int := if b i = 45 then tail0 b n (i + 1) else tail0 b n i

/-- the exponent's digits -/
theorem run_exp (b : Nat → Int) (n p : Nat) (st : Int) (hst : st = 6 ∨ st = 7) (hs : st = 6 → p < n → ¬ (b p = 43 ∨ b p = 45)) :
    run b n st p = if dEnd b n p = p then -1 else (dEnd b n p : Int) := by
  by_cases hd : p < n ∧ 48 ≤ b p ∧ b p ≤ 57
  · obtain ⟨hp, h1, h2⟩ := hd
    have hstep : nstep st (b p) = 8 := by
      rcases hst with rfl | rfl
      · have := hs rfl hp
        simp [nstep, h1, h2, this]
      · simp [nstep, h1, h2]
    rw [run_step b n st 8 p hp hstep (by omega), run_digits b n 8 (by omega) (p + 1), ← dEnd_yes b n p hp h1 h2]
    have hle := dEnd_le b n (p + 1) (by omega)
    rw [← dEnd_yes b n p hp h1 h2] at hle
    rw [if_neg (by omega)]
    by_cases he : dEnd b n p < n
    · have := dEnd_stop b n p he
      rw [run_stop b n 8 _ (by simp [nstep, this])]; simp [fin]
    · rw [run_end b n 8 _ (by omega)]; simp [fin]
  · have hno : dEnd b n p = p := dEnd_no b n p (fun h1 h2 => hd ⟨h1, h2⟩)
    rw [if_pos hno]
    by_cases hp : p < n
    · have hnd : ¬ (48 ≤ b p ∧ b p ≤ 57) := fun h => hd ⟨hp, h⟩
      have hstep : nstep st (b p) < 0 := by
        rcases hst with rfl | rfl
        · have := hs rfl hp
          simp [nstep, hnd, this]
        · simp [nstep, hnd]
      rw [run_stop b n st p hstep]
      rcases hst with rfl | rfl <;> simp [fin]
    · rw [run_end b n st p (by omega)]
      rcases hst with rfl | rfl <;> simp [fin]

theorem run_tail2 (b : Nat → Int) (n p : Nat) (st : Int) (hst : st = 2 ∨ st = 3 ∨ st = 5) (h1 : st = 2 ∨ st = 3 → p < n → b p ≠ 46) (h2 : st = 3 ∨ st = 5 → p < n → ¬ (48 ≤ b p ∧ b p ≤ 57)) :
    run b n st p = tail2 b n p := by
  unfold tail2
  by_cases hp : p < n
  · by_cases he : b p = 101 ∨ b p = 69
    · rw [if_pos ⟨hp, he⟩]
      have hn46 : b p ≠ 46 := by omega
      have hnd : ¬ (48 ≤ b p ∧ b p ≤ 57) := by omega
      have hstep : nstep st (b p) = 6 := by
        rcases hst with rfl | rfl | rfl <;> simp [nstep, hn46, hnd, he]
      rw [run_step b n st 6 p hp hstep (by omega)]
      by_cases hs : p + 1 < n ∧ (b (p + 1) = 43 ∨ b (p + 1) = 45)
      · rw [if_pos hs, run_step b n 6 7 (p + 1) hs.1 (by simp [nstep, hs.2]) (by omega)]
        exact run_exp b n (p + 2) 7 (by omega) (by omega)
      · rw [if_neg hs]
        exact run_exp b n (p + 1) 6 (by omega) (fun _ h hh => hs ⟨h, hh⟩)
    · rw [if_neg (by intro h; exact he h.2)]
      have hstep : nstep st (b p) < 0 := by
        rcases hst with rfl | rfl | rfl
        · have := h1 (by omega) hp; simp [nstep, this, he]
        · have := h1 (by omega) hp; have := h2 (by omega) hp; simp [nstep, *]
        · have := h2 (by omega) hp; simp [nstep, *]
      rw [run_stop b n st p hstep]
      rcases hst with rfl | rfl | rfl <;> simp [fin]
  · rw [if_neg (by omega), run_end b n st p (by omega)]
    rcases hst with rfl | rfl | rfl <;> simp [fin]

theorem run_tail1 (b : Nat → Int) (n p : Nat) (st : Int) (hst : st = 2 ∨ st = 3) (h2 : st = 3 → p < n → ¬ (48 ≤ b p ∧ b p ≤ 57)) :
    run b n st p = tail1 b n p := by
  unfold tail1
  by_cases hd : p < n ∧ b p = 46
  · obtain ⟨hp, h46⟩ := hd
    rw [if_pos ⟨hp, h46⟩]
    have hstep : nstep st (b p) = 4 := by rcases hst with rfl | rfl <;> simp [nstep, h46]
    rw [run_step b n st 4 p hp hstep (by omega)]
    by_cases hdig : p + 1 < n ∧ 48 ≤ b (p + 1) ∧ b (p + 1) ≤ 57
    · obtain ⟨hp1, ha, hb⟩ := hdig
      rw [run_step b n 4 5 (p + 1) hp1 (by simp [nstep, ha, hb]) (by omega), run_digits b n 5 (by omega) (p + 1 + 1), ← dEnd_yes b n (p + 1) hp1 ha hb]
      have hle := dEnd_le b n (p + 1 + 1) (by omega)
      rw [← dEnd_yes b n (p + 1) hp1 ha hb] at hle
      rw [if_neg (by omega)]
      exact run_tail2 b n _ 5 (by omega) (by omega) (fun _ h => dEnd_stop b n (p + 1) h)
    · have hno : dEnd b n (p + 1) = p + 1 := dEnd_no b n (p + 1) (fun h1 h2 => hdig ⟨h1, h2⟩)
      rw [if_pos hno]
      by_cases hp1 : p + 1 < n
      · have hnd : ¬ (48 ≤ b (p + 1) ∧ b (p + 1) ≤ 57) := fun h => hdig ⟨hp1, h⟩
        rw [run_stop b n 4 (p + 1) (by simp [nstep, hnd])]; simp [fin]
      · rw [run_end b n 4 (p + 1) (by omega)]; simp [fin]
  · rw [if_neg hd]
    exact run_tail2 b n p st (by omega) (fun _ h e => hd ⟨h, e⟩) (fun h hp => h2 (by omega) hp)

theorem run_tail0 (b : Nat → Int) (n p : Nat) (st : Int) (hst : st = 0 ∨ st = 1) (h0 : st = 0 → p < n → b p ≠ 45) :
    run b n st p = tail0 b n p := by
  unfold tail0
  by_cases hp : p < n
  · rw [if_pos hp]
    by_cases hz : b p = 48
    · rw [if_pos hz, run_step b n st 2 p hp (by rcases hst with rfl | rfl <;> simp [nstep, hz]) (by omega)]
      exact run_tail1 b n (p + 1) 2 (by omega) (by omega)
    · rw [if_neg hz]
      by_cases hd : 49 ≤ b p ∧ b p ≤ 57
      · rw [if_pos hd]
        have h1 : 48 ≤ b p := by omega
        have hn : b p ≠ 45 := by omega
        rw [run_step b n st 3 p hp (by rcases hst with rfl | rfl <;> simp [nstep, hz, h1, hd.2, hn]) (by omega), run_digits b n 3 (by omega) (p + 1)]
        exact run_tail1 b n _ 3 (by omega) (fun _ h => dEnd_stop b n (p + 1) h)
      · rw [if_neg hd]
        have hnd : ¬ (48 ≤ b p ∧ b p ≤ 57) := by omega
        have hstep : nstep st (b p) < 0 := by
          rcases hst with rfl | rfl
          · have := h0 rfl hp; simp [nstep, hz, hnd, this]
          · simp [nstep, hz, hnd]
        rw [run_stop b n st p hstep]
        rcases hst with rfl | rfl <;> simp [fin]
  · rw [if_neg hp, run_end b n st p (by omega)]
    rcases hst with rfl | rfl <;> simp [fin]

/-- THE LAW: the reader answers what the automaton answers. -/
theorem num_run (b : Nat → Int) (n i : Nat) (h : i < n) : num b n i = run b n 0 i := by
  unfold num
  by_cases hm : b i = 45
  · rw [if_pos hm, run_step b n 0 1 i h (by simp [nstep, hm]) (by omega)]
    exact (run_tail0 b n (i + 1) 1 (by omega) (by omega)).symm
  · rw [if_neg hm]
    exact (run_tail0 b n i 0 (by omega) (fun _ _ => hm)).symm

end Go.Proofs.Qxb6606093a.Num
