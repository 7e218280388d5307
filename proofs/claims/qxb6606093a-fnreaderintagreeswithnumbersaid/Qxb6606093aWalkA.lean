/-
  THE WALKS of the small functions: digits (23), zzBytes.. (7, 11, 12, 18), zzIsDigit (19).
-/
import Derived.Test.Qxb6606093aChecked
import Derived.Test.Qxb6606093aPlain
import Derived.WalkKit
import Derived.ProofKit
import Derived.WalkSpells
import Derived.Below
import Derived.Outline
namespace Go.Proofs.Qxb6606093a
open Go.ChangeShapes Go.WideShapes Go.ChangeAt Go.RowKit
open Num
set_option linter.unusedVariables false

theorem ret_int {k : IntKind} {a b : Int} (h : a = b) : Ending.returned (.int k a) = .returned (.int k b) := by rw [h]

set_option maxHeartbeats 400000 in
theorem digits_any (b : Nat → Int) (bl off n cap p : Nat) (w : World) (hn : n ≤ 1048576) (hp : p ≤ n)
    (hc : ∀ k, k < n → w.cell? ⟨bl, off + k, none⟩ = some (.int .u8 (b k))) :
    Calls Try.prog 23 #[.slice (some ⟨bl, off, none⟩) n cap, .int .i64 p] w fun e w' => e = .returned (.int .i64 (dEnd b n p)) ∧ w = w' := by
  go_enter Try.func23, Try.ntmps23
  go_wp2
  go_loop [1] (fun i => ∃ k : Nat, k ≤ n ∧ i = .int .i64 k ∧ Hid (dEnd b n p = dEnd b n k)) (fun i => n - (intOf i).toNat)
  case atStart => exact ⟨p, hp, rfl, rfl⟩
  case round =>
    obtain ⟨k, hk, rfl, hd⟩ := hrel
    by_cases hlt : k < n
    · have hck := hc k hlt
      by_cases h1 : 48 ≤ b k
      · by_cases h2 : b k ≤ 57
        · go_wp2
          go_round
          case rel => exact ⟨k + 1, by omega, by go_num, hd.out.trans (dEnd_yes b n k hlt h1 h2)⟩
          case measure => simp [intOf]; omega
        · go_wp2
          go_ret
          exact ⟨ret_int (by rw [hd.out, dEnd_no b n k (by omega)]), rfl⟩
      · go_wp2
        go_ret
        exact ⟨ret_int (by rw [hd.out, dEnd_no b n k (by omega)]), rfl⟩
    · go_wp2
      go_ret
      exact ⟨ret_int (by rw [hd.out, dEnd_no b n k (by omega)]), rfl⟩

theorem bytes7_any (a : Option Addr) (n cap : Nat) (i : Int) (w : World) (hm : n ≤ maxLen) :
    Calls Try.prog 7 #[.slice a n cap, .int .i64 i] w fun e w' => e = .returned (.bool (decide (n ≤ 1048576))) ∧ w = w' := by
  unfold maxLen at hm
  by_cases h : n ≤ 1048576
  · go_enter Try.func7, Try.ntmps7
    go_wp2
    go_ret
    exact ⟨by simp [h], rfl⟩
  · go_enter Try.func7, Try.ntmps7
    go_wp2
    go_ret
    exact ⟨by simp [h], rfl⟩

theorem bytes11_any (a : Option Addr) (n cap : Nat) (i : Int) (w : World) (hm : n ≤ maxLen) :
    Calls Try.prog 11 #[.slice a n cap, .int .i64 i] w fun e w' => e = .returned (.bool (decide (n ≤ 1048576))) ∧ w = w' := by
  unfold maxLen at hm
  by_cases h : n ≤ 1048576
  · go_enter Try.func11, Try.ntmps11
    go_wp2
    go_ret
    exact ⟨by simp [h], rfl⟩
  · go_enter Try.func11, Try.ntmps11
    go_wp2
    go_ret
    exact ⟨by simp [h], rfl⟩

theorem bytes12_any (a : Option Addr) (n cap : Nat) (i : Int) (w : World) (hm : n ≤ maxLen) :
    Calls Try.prog 12 #[.slice a n cap, .int .i64 i] w fun e w' => e = .returned (.bool (decide (n ≤ 1048576))) ∧ w = w' := by
  unfold maxLen at hm
  by_cases h : n ≤ 1048576
  · go_enter Try.func12, Try.ntmps12
    go_wp2
    go_ret
    exact ⟨by simp [h], rfl⟩
  · go_enter Try.func12, Try.ntmps12
    go_wp2
    go_ret
    exact ⟨by simp [h], rfl⟩

theorem bytes18_any (a : Option Addr) (n cap : Nat) (w : World) (hm : n ≤ maxLen) :
    Calls Try.prog 18 #[.slice a n cap] w fun e w' => e = .returned (.bool (decide (n ≤ 1048576))) ∧ w = w' := by
  unfold maxLen at hm
  by_cases h : n ≤ 1048576
  · go_enter Try.func18, Try.ntmps18
    go_wp2
    go_ret
    exact ⟨by simp [h], rfl⟩
  · go_enter Try.func18, Try.ntmps18
    go_wp2
    go_ret
    exact ⟨by simp [h], rfl⟩

/-- a digit, as a Bool of our own -/
def digB (c : Int) : Bool := decide (48 ≤ c ∧ c ≤ 57)
theorem digB_yes {c : Int} (h1 : 48 ≤ c) (h2 : c ≤ 57) : digB c = true := by simp [digB, h1, h2]
theorem digB_no {c : Int} (h : ¬ (48 ≤ c ∧ c ≤ 57)) : digB c = false := by unfold digB; exact decide_eq_false h
theorem digB_iff {c : Int} : digB c = true ↔ 48 ≤ c ∧ c ≤ 57 := by simp [digB]
theorem ret_bool {a b : Bool} (h : a = b) : Ending.returned (.bool a) = .returned (.bool b) := by rw [h]

theorem isDigit_any (c : Int) (w : World) : Calls Try.prog 19 #[.int .u8 c] w fun e w' => e = .returned (.bool (digB c)) ∧ w = w' := by
  by_cases h1 : 48 ≤ c
  · by_cases h2 : c ≤ 57
    · have hd : Hid (digB c = true) := digB_yes h1 h2
      go_enter Try.func19, Try.ntmps19
      go_wp2
      go_ret
      exact ⟨ret_bool hd.out.symm, rfl⟩
    · have hd : Hid (digB c = false) := digB_no (by omega)
      go_enter Try.func19, Try.ntmps19
      go_wp2
      go_ret
      exact ⟨ret_bool hd.out.symm, rfl⟩
  · have hd : Hid (digB c = false) := digB_no (by omega)
    go_enter Try.func19, Try.ntmps19
    go_wp2
    go_ret
    exact ⟨ret_bool hd.out.symm, rfl⟩
end Go.Proofs.Qxb6606093a
