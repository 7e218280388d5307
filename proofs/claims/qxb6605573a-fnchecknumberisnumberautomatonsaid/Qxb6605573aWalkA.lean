/-
  THE WALKS of the small functions: digitsEnd (32), zzNumStep (25), zzNumber (10), zzBytes.. (7).
-/
import Derived.Test.Qxb6605573aChecked
import Derived.Test.Qxb6605573aPlain
import Derived.WalkKit
import Derived.ProofKit
import Derived.WalkSpells
import Derived.Below
import Derived.Outline
namespace Go.Proofs.Qxb6605573a
open Go.ChangeShapes Go.WideShapes Go.ChangeAt Go.RowKit
open Num
set_option linter.unusedVariables false

theorem ret_int {k : IntKind} {a b : Int} (h : a = b) : Ending.returned (.int k a) = .returned (.int k b) := by rw [h]

set_option maxHeartbeats 400000 in
theorem digitsEnd_any (b : Nat → Int) (bl off n cap p : Nat) (w : World) (hn : n ≤ 1048576) (hp : p ≤ n)
    (hc : ∀ k, k < n → w.cell? ⟨bl, off + k, none⟩ = some (.int .u8 (b k))) :
    Calls Try.prog 32 #[.slice (some ⟨bl, off, none⟩) n cap, .int .i64 p] w fun e w' => e = .returned (.int .i64 (dEnd b n p)) ∧ w' = w := by
  go_enter Try.func32, Try.ntmps32
  go_wp2
  go_loop [1] (fun i => ∃ k : Nat, k ≤ n ∧ i = .int .i64 k ∧ Hid (dEnd b n p = dEnd b n k)) (fun i => n - (intOf i).toNat)
  case atStart => exact ⟨p, hp, rfl, rfl⟩
  case round =>
    obtain ⟨k, hk, rfl, hd⟩ := hrel
    by_cases hlt : k < n
    · have hck := hc k hlt
      by_cases h1 : 48 ≤ b k
      · by_cases h2 : b k ≤ 57
        · go_wp2
          go_round
          case rel => exact ⟨k + 1, by omega, by go_num, hd.out.trans (dEnd_yes b n k hlt h1 h2)⟩
          case measure => simp [intOf]; omega
        · go_wp2
          go_ret
          exact ⟨ret_int (by rw [hd.out, dEnd_no b n k (by omega)]), rfl⟩
      · go_wp2
        go_ret
        exact ⟨ret_int (by rw [hd.out, dEnd_no b n k (by omega)]), rfl⟩
    · go_wp2
      go_ret
      exact ⟨ret_int (by rw [hd.out, dEnd_no b n k (by omega)]), rfl⟩

theorem bytes_any (a : Option Addr) (n cap : Nat) (i : Int) (w : World) (hm : n ≤ maxLen) :
    Calls Try.prog 7 #[.slice a n cap, .int .i64 i] w fun e w' => e = .returned (.bool (decide (n ≤ 1048576))) ∧ w' = w := by
  unfold maxLen at hm
  by_cases h : n ≤ 1048576
  · go_enter Try.func7, Try.ntmps7
    go_wp2
    go_ret
    exact ⟨by simp [h], rfl⟩
  · go_enter Try.func7, Try.ntmps7
    go_wp2
    go_ret
    exact ⟨by simp [h], rfl⟩
end Go.Proofs.Qxb6605573a
