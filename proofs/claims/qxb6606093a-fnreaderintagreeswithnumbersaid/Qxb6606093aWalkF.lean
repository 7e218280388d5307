/-
  THE WALKS of (*Reader).Int (15) at no bytes, ZZNewReader (14), ZZReaderData (16), zzEqual_jf1 (17), zzClone_jf1 (8) at no bytes.
-/
import Derived.Test.Qxb6606093aWalkD
import Derived.Deep.QuietTactic
import Derived.BigQuiet
import Derived.LoopN
namespace Go.Proofs.Qxb6606093a
open Go.ChangeShapes Go.WideShapes Go.ChangeAt Go.RowKit
set_option linter.unusedVariables false

set_option maxRecDepth 20000 in
theorem int_none (rb nb : Nat) (a : Option Addr) (c : Nat) (w : World)
    (hr : w.cell? ⟨rb, 0, none⟩ = some (.slice a 0 c)) :
    Calls Try.prog 15 #[.pointer (some ⟨rb, 0, none⟩), .pointer (some ⟨nb, 0, none⟩)] w fun e w' => e = .returned (.bool false) ∧ w = w' := by
  go_enter Try.func15, Try.ntmps15
  go_wp2
  refine wp_loop_rounds 1 ?_
  rw [rounds_succ]
  go_wp2
  go_ret
  exact ⟨rfl, rfl⟩

theorem newReader_any (v : Value) (a : Option Addr) (n c : Nat) (w : World) (hv : v = .slice a n c) :
    Calls Try.prog 14 #[v] w fun e w' => e = .returned (.pointer (some ⟨w.heap.size, 0, none⟩)) ∧ w' = w.alloc (.cells #[.slice a n c] 41) := by
  subst hv
  go_enter Try.func14, Try.ntmps14
  go_wp2
  go_ret
  exact ⟨rfl, rfl⟩

theorem readerData_any (rb : Nat) (a : Option Addr) (n c : Nat) (w : World) (hr : w.cell? ⟨rb, 0, none⟩ = some (.slice a n c)) :
    Calls Try.prog 16 #[.pointer (some ⟨rb, 0, none⟩)] w fun e w' => e = .returned (.slice a n c) ∧ w = w' := by
  go_enter Try.func16, Try.ntmps16
  go_wp2
  go_ret
  exact ⟨rfl, rfl⟩

theorem clone_none (w : World) :
    Calls Try.prog 8 #[.slice none 0 0] w fun e w' => e = .returned (.slice none 0 0) ∧ w = w' := by
  have qs : ∀ (w : World) (a : Option Addr) (n c n' c' : Nat), (binOp .eql 22 (.slice a n c) (.slice none n' c')).run Try.prog w = .ok (.bool a.isNone) w := fun w a n c n' c' => Lib.run_eql_slice_nil w _ _ a n c n' c' Try.underlying22
  go_enter Try.func8, Try.ntmps8
  go_wp2
  go_ret
  exact ⟨rfl, rfl⟩

theorem clone_empty (x : Addr) (cap : Nat) (w : World) :
    Calls Try.prog 8 #[.slice (some x) 0 cap] w fun e w' => e = .returned (.slice (some ⟨w.heap.size, 0, none⟩) 0 0) ∧ Below w.heap.size w w' := by
  have qs : ∀ (w : World) (a : Option Addr) (n c n' c' : Nat), (binOp .eql 22 (.slice a n c) (.slice none n' c')).run Try.prog w = .ok (.bool a.isNone) w := fun w a n c n' c' => Lib.run_eql_slice_nil w _ _ a n c n' c' Try.underlying22
  have hmk : ∀ w, (Instr.makeSlice 22 (.int .i64 0) (.int .i64 0)).run Try.prog w = .ok (.slice (some ⟨w.heap.size, 0, none⟩) 0 0) (w.alloc (.cells (madeCells #[.int .u8 0] 0) 5)) := fun w => run_make_row' (P := Try.prog) 22 5 (.int .u8 0) 1 Try.underlying22 Try.info5 rfl .i64 .i64 0 (by omega) (by omega) w
  go_enter Try.func8, Try.ntmps8
  go_wp2
  refine wp_loop_rounds 1 ?_
  rw [rounds_succ]
  go_wp2
  go_ret
  exact ⟨rfl, (Below.refl _ _).alloc (Nat.le_refl _) _⟩

theorem equal_none (a a' : Option Addr) (c c' : Nat) (w : World) :
    Calls Try.prog 17 #[.slice a 0 c, .slice a' 0 c'] w fun e w' => e = .returned (.bool true) ∧ Below w.heap.size w w' := by
  go_enter Try.func17, Try.ntmps17
  go_wp2
  refine wp_loop_rounds 1 ?_
  rw [rounds_succ]
  go_wp2
  go_ret
  exact ⟨rfl, Below.refl _ _⟩

theorem below_drewN {B : Nat} {w wr : World} (h : Below B w wr) (m : Nat) : Below B w (wr.drewN m) := h.trans ⟨rfl, rfl, rfl, Nat.le_refl _, fun _ _ => rfl⟩

set_option maxHeartbeats 400000 in
theorem equal_any (b : Nat → Int) (bl off bl' off' n c c' : Nat) (w : World) (hn : n ≤ 1048576)
    (hc : ∀ k, k < n → w.cell? ⟨bl, off + k, none⟩ = some (.int .u8 (b k))) (hc' : ∀ k, k < n → w.cell? ⟨bl', off' + k, none⟩ = some (.int .u8 (b k))) :
    Calls Try.prog 17 #[.slice (some ⟨bl, off, none⟩) n c, .slice (some ⟨bl', off', none⟩) n c'] w fun e w' => e = .returned (.bool true) ∧ Below w.heap.size w w' := by
  go_enter Try.func17, Try.ntmps17
  go_wp2
  go_loopw [5] (fun i wr => ∃ k : Nat, k ≤ n ∧ i = .int .i64 k ∧ Below w.heap.size w wr) (fun i _ => n - (intOf i).toNat)
  case atStart => exact ⟨0, Nat.zero_le _, rfl, Below.refl _ _⟩
  case round =>
    obtain ⟨k, hk, rfl, hb⟩ := hrel
    by_cases hlt : k < n
    · have g1 : wr.cell? ⟨bl, off + k, none⟩ = some (.int .u8 (b k)) := (hb.cell (p := ⟨bl, off + k, none⟩) (World.block_lt_of_cell? _ _ (hc k hlt))).trans (hc k hlt)
      have g2 : wr.cell? ⟨bl', off' + k, none⟩ = some (.int .u8 (b k)) := (hb.cell (p := ⟨bl', off' + k, none⟩) (World.block_lt_of_cell? _ _ (hc' k hlt))).trans (hc' k hlt)
      have hlti : (k : Int) < (n : Int) := by omega
      go_wp2
      go_quiet (fail)
      go_wp2
      go_roundw
      case rel => exact ⟨k + 1, by omega, by go_num, below_drewN hb _⟩
      case measure => simp [intOf]; omega
    · go_wp2
      go_ret
      exact ⟨rfl, hb⟩
end Go.Proofs.Qxb6606093a
