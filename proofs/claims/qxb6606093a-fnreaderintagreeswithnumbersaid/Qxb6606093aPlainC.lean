/-
  PLAIN: the number that a run of digits spells; when an int64 holds it; comparing 19 digits with the greatest int64's.
-/
import Derived.Test.Qxb6606093aPlain
namespace Go.Proofs.Qxb6606093a.Num

/-- what the first m bytes spell -/
def val (b : Nat → Int) : Nat → Int
  | 0 => 0
  | m + 1 => val b m * 10 + (b m - 48)

def Digs (b : Nat → Int) (m : Nat) : Prop := ∀ t, t < m → 48 ≤ b t ∧ b t ≤ 57
theorem Digs.mono {b : Nat → Int} {m m' : Nat} (h : Digs b m') (hm : m ≤ m') : Digs b m := fun t ht => h t (by omega)

theorem val_nonneg (b : Nat → Int) (m : Nat) (h : Digs b m) : 0 ≤ val b m := by
  induction m with
  | zero => simp [val]
  | succ m ih =>
    have h1 := ih (h.mono (by omega))
    have h2 := h m (by omega)
    simp only [val]; omega

theorem val_lt_pow (b : Nat → Int) (m : Nat) (h : Digs b m) : val b m < 10 ^ m := by
  induction m with
  | zero => simp [val]
  | succ m ih =>
    have h1 := ih (h.mono (by omega))
    have h2 := h m (by omega)
    simp only [val, Int.pow_succ]; omega

theorem val_mono (b : Nat → Int) (m r : Nat) (h : Digs b (m + r)) : val b m ≤ val b (m + r) := by
  induction r with
  | zero => exact Int.le_refl _
  | succ r ih =>
    have h1 := ih (h.mono (by omega))
    have h2 := h (m + r) (by omega)
    have h3 := val_nonneg b (m + r) (h.mono (by omega))
    show val b m ≤ val b (m + r) * 10 + (b (m + r) - 48)
    omega

theorem val_ge_pow (b : Nat → Int) (m : Nat) (h : Digs b (m + 1)) (h0 : 49 ≤ b 0) : 10 ^ m ≤ val b (m + 1) := by
  induction m with
  | zero => simp [val]; omega
  | succ m ih =>
    have h1 := ih (h.mono (by omega))
    have h2 := h (m + 1) (by omega)
    show 10 ^ (m + 1) ≤ val b (m + 1) * 10 + (b (m + 1) - 48)
    rw [Int.pow_succ]; omega

/-- where two runs part, the longer ones part alike -/
theorem val_lt (b c : Nat → Int) (m r : Nat) (hb : Digs b (m + r)) (hc : Digs c (m + r)) (h : val b m < val c m) : val b (m + r) < val c (m + r) := by
  induction r with
  | zero => exact h
  | succ r ih =>
    have h1 := ih (hb.mono (by omega)) (hc.mono (by omega))
    have h2 := hb (m + r) (by omega)
    have h3 := hc (m + r) (by omega)
    show val b (m + r) * 10 + (b (m + r) - 48) < val c (m + r) * 10 + (c (m + r) - 48)
    omega

theorem val_congr (b c : Nat → Int) (m : Nat) (h : ∀ t, t < m → b t = c t) : val b m = val c m := by
  induction m with
  | zero => rfl
  | succ m ih => simp only [val]; rw [ih (fun t ht => h t (by omega)), h m (by omega)]

/-- the digits of the greatest int64 -/
def mxL : List Int := [57, 50, 50, 51, 51, 55, 50, 48, 51, 54, 56, 53, 52, 55, 55, 53, 56, 48, 55]
def mx (p : Nat) : Int := mxL.getD p 0
theorem mx_val : val mx 19 = 9223372036854775807 := by decide +kernel
theorem mx_digs : Digs mx 19 := by
  have h : ∀ t, t < 19 → 48 ≤ mx t ∧ mx t ≤ 57 := by decide +kernel
  exact h

theorem lex_lt (b : Nat → Int) (p : Nat) (hp : p < 19) (hb : Digs b 19) (he : ∀ t, t < p → b t = mx t) (h : b p < mx p) : val b 19 < 9223372036854775807 := by
  rw [← mx_val]
  obtain ⟨r, hr⟩ : ∃ r, 19 = p + 1 + r := ⟨19 - (p + 1), by omega⟩
  have hm := mx_digs
  rw [hr] at hb hm ⊢
  refine val_lt b mx (p + 1) r hb hm ?_
  show val b p * 10 + (b p - 48) < val mx p * 10 + (mx p - 48)
  rw [val_congr b mx p he]; omega
theorem lex_gt (b : Nat → Int) (p : Nat) (hp : p < 19) (hb : Digs b 19) (he : ∀ t, t < p → b t = mx t) (h : mx p < b p) : 9223372036854775807 < val b 19 := by
  rw [← mx_val]
  obtain ⟨r, hr⟩ : ∃ r, 19 = p + 1 + r := ⟨19 - (p + 1), by omega⟩
  have hm := mx_digs
  rw [hr] at hb hm ⊢
  refine val_lt mx b (p + 1) r hm hb ?_
  show val mx p * 10 + (mx p - 48) < val b p * 10 + (b p - 48)
  rw [val_congr b mx p he]; omega
theorem lex_eq (b : Nat → Int) (he : ∀ t, t < 19 → b t = mx t) : val b 19 = 9223372036854775807 := by rw [val_congr b mx 19 he, mx_val]

/-- the run of digits -/
theorem dRun_digs (b : Nat → Int) (f p : Nat) : ∀ t, p ≤ t → t < dRun b f p → 48 ≤ b t ∧ b t ≤ 57 := by
  induction f generalizing p with
  | zero => intro t h1 h2; simp only [dRun] at h2; omega
  | succ f ih =>
    intro t h1 h2
    simp only [dRun] at h2
    split at h2
    · by_cases e : t = p
      · subst e; assumption
      · exact ih (p + 1) t (by omega) h2
    · omega
theorem dEnd_digs (b : Nat → Int) (n : Nat) : Digs b (dEnd b n 0) := fun t ht => dRun_digs b _ 0 t (Nat.zero_le _) ht

/-- no number of digits alone stands here -/
def Bad (b : Nat → Int) (n : Nat) : Prop := dEnd b n 0 = 0 ∨ (1 < dEnd b n 0 ∧ b 0 = 48) ∨ (dEnd b n 0 < n ∧ (b (dEnd b n 0) = 46 ∨ b (dEnd b n 0) = 101 ∨ b (dEnd b n 0) = 69))
/-- a number of digits alone that an int64 holds -/
def Acc (b : Nat → Int) (n : Nat) : Prop := ¬ Bad b n ∧ val b (dEnd b n 0) ≤ 9223372036854775807

theorem pow_mono10 (a b : Nat) (h : a ≤ b) : (10 : Int) ^ a ≤ 10 ^ b := by
  have : (10 : Nat) ^ a ≤ 10 ^ b := Nat.pow_le_pow_right (by omega) h
  have h1 : ((10 : Int) ^ a) = ((10 ^ a : Nat) : Int) := by simp
  have h2 : ((10 : Int) ^ b) = ((10 ^ b : Nat) : Int) := by simp
  rw [h1, h2]; omega

/-- more than 19 digits, the first not 0: too great -/
theorem long_big (b : Nat → Int) (k : Nat) (hk : 19 < k) (hd : Digs b k) (h0 : ¬ b 0 = 48) : 9223372036854775807 < val b k := by
  obtain ⟨m, rfl⟩ : ∃ m, k = m + 1 := ⟨k - 1, by omega⟩
  have h1 := val_ge_pow b m hd (by have := hd 0 (by omega); omega)
  have h2 := pow_mono10 19 m (by omega)
  have h3 : (10 : Int) ^ 19 = 10000000000000000000 := by decide +kernel
  omega
/-- at most 18 digits: it fits -/
theorem short_fits (b : Nat → Int) (k : Nat) (hk : k ≤ 18) (hd : Digs b k) : val b k ≤ 999999999999999999 := by
  have h1 := val_lt_pow b k hd
  have h2 := pow_mono10 k 18 hk
  have h3 : (10 : Int) ^ 18 = 1000000000000000000 := by decide +kernel
  omega
/-- at most 19 digits: no uint64 wraps -/
theorem val_le19 (b : Nat → Int) (k : Nat) (hk : k ≤ 19) (hd : Digs b k) : val b k ≤ 9999999999999999999 := by
  have h1 := val_lt_pow b k hd
  have h2 := pow_mono10 k 19 hk
  have h3 : (10 : Int) ^ 19 = 10000000000000000000 := by decide +kernel
  omega
end Go.Proofs.Qxb6606093a.Num
