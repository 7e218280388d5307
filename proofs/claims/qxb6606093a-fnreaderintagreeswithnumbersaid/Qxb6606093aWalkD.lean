/-
  THE WALK of zzClone_jf1 (8).
-/
import Derived.Test.Qxb6606093aWalkA
import Derived.Laws.CopyOwn
import Derived.Deep.OwnRows
namespace Go.Proofs.Qxb6606093a
open Go.ChangeShapes Go.WideShapes Go.ChangeAt Go.RowKit
open Num
set_option linter.unusedVariables false

theorem Try.info5 : (Try.prog.info? 5).map (fun i => (i.zero, i.size, i.bytes)) = some (some (.int .u8 0), 1, 1) := by kernel_rfl

/-- the clone behind k rounds: a row of n cells at the first new block, its first k cells the bytes -/
def Made (b : Nat → Int) (n k : Nat) (w wr : World) : Prop :=
  Below w.heap.size w wr ∧ wr.heap.size = w.heap.size + 1 ∧ ∃ cs : Array Value, wr.heap[w.heap.size]? = some (.cells cs 5 (0, 0)) ∧ cs.size = n ∧ ∀ j, j < k → cs[j]? = some (.int .u8 (b j))

theorem Made.cell {b : Nat → Int} {n k : Nat} {w wr : World} (h : Made b n k w wr) (j : Nat) (hj : j < k) : wr.cell? ⟨w.heap.size, j, none⟩ = some (.int .u8 (b j)) := by
  obtain ⟨_, _, cs, h1, h2, h3⟩ := h
  simp only [World.cell?, h1]
  simpa using h3 j hj
theorem Made.there {b : Nat → Int} {n k : Nat} {w wr : World} (h : Made b n k w wr) (j : Nat) (hj : j < n) : ∃ v, wr.cell? ⟨w.heap.size, j, none⟩ = some v := by
  obtain ⟨_, _, cs, h1, h2, h3⟩ := h
  refine ⟨cs[j], ?_⟩
  simp only [World.cell?, h1]
  simp [h2, hj]
theorem Made.free {b : Nat → Int} {n k : Nat} {w wr : World} (h : Made b n k w wr) (j : Nat) : wr.frozen? ⟨w.heap.size, j, none⟩ = false := by
  obtain ⟨_, _, cs, h1, h2, h3⟩ := h
  simp [World.frozen?, h1]
theorem Made.start (b : Nat → Int) (n : Nat) (w : World) : Made b n 0 w (w.alloc (.cells (madeCells #[.int .u8 0] n) 5)) :=
  ⟨(Below.refl _ _).alloc (Nat.le_refl _) _, by simp, _, heap_alloc_new _ _, by simp [madeCells], fun j hj => absurd hj (Nat.not_lt_zero _)⟩
theorem Made.next {b : Nat → Int} {n k : Nat} {w wr : World} (h : Made b n k w wr) (hk : k < n) : Made b n (k + 1) w (wr.setCell ⟨w.heap.size, k, none⟩ (.int .u8 (b k))) := by
  obtain ⟨hb, hs, cs, h1, h2, h3⟩ := h
  have e := setCell_eq_setRow wr w.heap.size k cs 5 (0, 0) (.int .u8 (b k)) h1
  refine ⟨hb.setCell (Nat.le_refl _) _, by rw [e]; simpa using hs, cs.setIfInBounds k (.int .u8 (b k)), ?_, by simpa using h2, ?_⟩
  · rw [e]; exact setRow_heap _ _ _ _ _ _ h1
  · intro j hj
    by_cases hjk : j = k
    · subst hjk
      simp [h2, hk]
    · rw [Array.getElem?_setIfInBounds_ne (by omega)]
      exact h3 j (by omega)

set_option maxHeartbeats 400000 in
theorem clone_any (b : Nat → Int) (bl off n cap : Nat) (w : World) (hn : n ≤ 1048576) (h0 : 0 < n)
    (hc : ∀ k, k < n → w.cell? ⟨bl, off + k, none⟩ = some (.int .u8 (b k))) :
    Calls Try.prog 8 #[.slice (some ⟨bl, off, none⟩) n cap] w fun e w' => e = .returned (.slice (some ⟨w.heap.size, 0, none⟩) n n) ∧ Made b n n w w' := by
  have hbl : bl < w.heap.size := World.block_lt_of_cell? _ _ (hc 0 h0)
  have qs : ∀ (w : World) (a : Option Addr) (n c n' c' : Nat), (binOp .eql 22 (.slice a n c) (.slice none n' c')).run Try.prog w = .ok (.bool a.isNone) w := fun w a n c n' c' => Lib.run_eql_slice_nil w _ _ a n c n' c' Try.underlying22
  have hmk := fun w => run_make_row' (P := Try.prog) 22 5 (.int .u8 0) 1 Try.underlying22 Try.info5 rfl .i64 .i64 n (by omega) (by omega) w
  go_enter Try.func8, Try.ntmps8
  go_wp2
  go_loopw [4] (fun i wr => ∃ k : Nat, k ≤ n ∧ i = .int .i64 k ∧ Made b n k w wr) (fun i _ => n - (intOf i).toNat)
  case atStart => exact ⟨0, Nat.zero_le _, rfl, Made.start b n w⟩
  case round =>
    obtain ⟨k, hk, rfl, hmade⟩ := hrel
    by_cases hlt : k < n
    · have hck : wr.cell? ⟨bl, off + k, none⟩ = some (.int .u8 (b k)) := (hmade.1.cell (by exact hbl)).trans (hc k hlt)
      obtain ⟨v0, hv0⟩ := hmade.there k hlt
      have hfr := hmade.free k
      have HM := show Hid _ from hmade.next hlt
      clear hmade
      go_wp2
      go_roundw
      case rel => exact ⟨k + 1, by omega, by go_num, HM.out⟩
      case measure => simp [intOf]; omega
    · obtain rfl : k = n := by omega
      go_wp2
      go_ret
      exact ⟨rfl, hmade⟩
end Go.Proofs.Qxb6606093a
