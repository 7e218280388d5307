/-
  THE WALKS of zzBytes (4), zzHasBracket (5).
-/
import Derived.Test.Qxb6605582aDoorChecked
import Derived.WalkKit
import Derived.ProofKit
import Derived.WalkSpells
import Derived.Below
import Derived.Outline
namespace Go.Proofs.Qxb6605582aDoor
open Go.ChangeShapes Go.WideShapes Go.ChangeAt Go.RowKit
set_option linter.unusedVariables false

theorem ret_int {k : IntKind} {a b : Int} (h : a = b) : Ending.returned (.int k a) = .returned (.int k b) := by rw [h]

theorem bytes_any (s t : ByteArray) (i j : Int) (w : World) (hs : s.size ≤ maxLen) (ht : t.size ≤ maxLen) :
    Calls Tryd.prog 4 #[.string s, .int .i64 i, .string t, .int .i64 j] w fun e w' => e = .returned (.bool (decide (s.size + t.size ≤ 1048576))) ∧ w' = w := by
  unfold maxLen at hs ht
  by_cases h : s.size ≤ 1048576
  · by_cases h2 : t.size ≤ 1048576
    · by_cases h3 : s.size + t.size ≤ 1048576
      · go_enter Tryd.func4, Tryd.ntmps4
        go_wp2
        go_ret
        exact ⟨by simp [h3], rfl⟩
      · go_enter Tryd.func4, Tryd.ntmps4
        go_wp2
        go_ret
        exact ⟨by simp [h3], rfl⟩
    · have h3 : ¬ s.size + t.size ≤ 1048576 := by omega
      go_enter Tryd.func4, Tryd.ntmps4
      go_wp2
      go_ret
      exact ⟨by simp [h3], rfl⟩
  · have h3 : ¬ s.size + t.size ≤ 1048576 := by omega
    go_enter Tryd.func4, Tryd.ntmps4
    go_wp2
    go_ret
    exact ⟨by simp [h3], rfl⟩

/-- the byte of s at t -/
def byt (s : ByteArray) (t : Nat) : Int := if h : t < s.size then (s[t].toNat : Int) else 0
theorem byt_at (s : ByteArray) (t : Nat) (h : t < s.size) : (s[t].toNat : Int) = byt s t := by unfold byt; rw [dif_pos h]

/-- some byte of s is a bracket -/
def brk (s : ByteArray) : Bool := (List.range s.size).any fun t => byt s t == 91 || byt s t == 93
theorem brk_yes (s : ByteArray) (t : Nat) (h : t < s.size) (hb : byt s t = 91 ∨ byt s t = 93) : brk s = true := by
  unfold brk
  rw [List.any_eq_true]
  exact ⟨t, by simpa using h, by simpa using hb⟩
theorem brk_no (s : ByteArray) (h : ∀ t, t < s.size → byt s t ≠ 91 ∧ byt s t ≠ 93) : brk s = false := by
  unfold brk
  rw [List.any_eq_false]
  intro t ht
  have := h t (by simpa using ht)
  simpa using this
theorem brk_all (s : ByteArray) (h : brk s = false) : ∀ t, t < s.size → byt s t ≠ 91 ∧ byt s t ≠ 93 := by
  intro t ht
  unfold brk at h
  rw [List.any_eq_false] at h
  have := h t (by simpa using ht)
  simpa using this
theorem ret_bool {a b : Bool} (h : a = b) : Ending.returned (.bool a) = .returned (.bool b) := by rw [h]

set_option maxHeartbeats 400000 in
theorem bracket_any (s : ByteArray) (w : World) (hs : s.size ≤ 1048576) :
    Calls Tryd.prog 5 #[.string s] w fun e w' => e = .returned (.bool (brk s)) ∧ w' = w := by
  go_enter Tryd.func5, Tryd.ntmps5
  go_wp2
  go_loop [3] (fun i => ∃ k : Nat, k ≤ s.size ∧ i = .int .i64 k ∧ Hid (∀ t, t < k → byt s t ≠ 91 ∧ byt s t ≠ 93)) (fun i => s.size - (intOf i).toNat)
  case atStart => exact ⟨0, Nat.zero_le _, rfl, fun t h0 => absurd h0 (Nat.not_lt_zero _)⟩
  case round =>
    obtain ⟨k, hk, rfl, hd⟩ := hrel
    by_cases hlt : k < s.size
    · have hx := byt_at s k hlt
      by_cases h1 : byt s k = 91
      · have hB : Hid (brk s = true) := brk_yes s k hlt (.inl h1)
        go_wp2
        go_ret
        exact ⟨ret_bool hB.out.symm, rfl⟩
      · by_cases h2 : byt s k = 93
        · have hB : Hid (brk s = true) := brk_yes s k hlt (.inr h2)
          go_wp2
          go_ret
          exact ⟨ret_bool hB.out.symm, rfl⟩
        · have r1 : (byt s k == 91) = false := by simpa using h1
          have r2 : (byt s k == 93) = false := by simpa using h2
          have H1 : Hid (byt s k ≠ 91) := h1
          have H2 : Hid (byt s k ≠ 93) := h2
          clear h1 h2
          go_wp2
          go_round
          case rel =>
            refine ⟨k + 1, by omega, by go_num, fun t ht => ?_⟩
            by_cases e : t = k
            · subst e; exact ⟨H1.out, H2.out⟩
            · exact hd.out t (by omega)
          case measure => simp [intOf]; omega
    · have hB : Hid (brk s = false) := brk_no s (fun t ht => hd.out t (by omega))
      go_wp2
      go_ret
      exact ⟨ret_bool hB.out.symm, rfl⟩
end Go.Proofs.Qxb6605582aDoor
