/-
  THE WALK of zzClone (8), at a slice that is not empty.
-/
import Derived.Test.Qxb6605573aWalkA
import Derived.Laws.CopyOwn
import Derived.Deep.OwnRows
namespace Go.Proofs.Qxb6605573a
open Go.ChangeShapes Go.WideShapes Go.ChangeAt Go.RowKit
open Num
set_option linter.unusedVariables false

theorem Try.info5 : (Try.prog.info? 5).map (fun i => (i.zero, i.size, i.bytes)) = some (some (.int .u8 0), 1, 1) := by kernel_rfl
theorem Try.size5 : (Try.prog.info? 5).map (·.size) = some 1 := by kernel_rfl

/-- the bytes as cells -/
def byteCells (b : Nat → Int) (n : Nat) : List Value := (List.range n).map fun k => .int .u8 (b k)
theorem byteCells_length (b : Nat → Int) (n : Nat) : (byteCells b n).length = n := by simp [byteCells]
theorem byteCells_at (b : Nat → Int) (n j : Nat) (v : Value) (h : (byteCells b n)[j]? = some v) : j < n ∧ v = .int .u8 (b j) := by
  have hj : j < n := by
    have := (List.getElem?_eq_some_iff.1 h).1
    simpa [byteCells] using this
  refine ⟨hj, ?_⟩
  simp [byteCells, hj] at h
  exact h.symm
theorem byteCells_get (b : Nat → Int) (n j : Nat) (h : j < n) : (byteCells b n)[j]? = some (.int .u8 (b j)) := by simp [byteCells, h]
theorem byteCells_one (b : Nat → Int) (n : Nat) : ∀ v ∈ byteCells b n, v.oneCell' = true := by
  intro v hv
  simp [byteCells] at hv
  obtain ⟨k, _, rfl⟩ := hv
  rfl

theorem copy_new (b : Nat → Int) (bl off n cap : Nat) (w : World) (hbl : bl < w.heap.size)
    (hc : ∀ k, k < n → w.cell? ⟨bl, off + k, none⟩ = some (.int .u8 (b k))) :
    ∃ W2, (Builtin.copy_ #[22, 22] 3 #[.slice (some ⟨w.heap.size, 0, none⟩) n n, .slice (some ⟨bl, off, none⟩) n cap]).run Try.prog (w.alloc (.cells (madeCells #[.int .u8 0] n) 5)) = .ok (goInt n) W2 ∧
      Below w.heap.size w W2 ∧ (∀ k, k < n → W2.cell? ⟨w.heap.size, k, none⟩ = some (.int .u8 (b k))) ∧ W2.heap.size = w.heap.size + 1 ∧ W2.heap[w.heap.size]? = some (.cells (byteCells b n).toArray 5 (0, 0)) := by
  have hl := byteCells_length b n
  have hg : (w.alloc (.cells (madeCells #[.int .u8 0] n) 5)).heap[w.heap.size]? = some (.cells (madeCells #[.int .u8 0] n) 5 (0, 0)) := heap_alloc_new _ _
  have hms : (madeCells #[Value.int .u8 0] n).size = n := by simp [madeCells]
  have hr := run_copy_row (P := Try.prog) (w.alloc (.cells (madeCells #[.int .u8 0] n) 5)) 22 22 3 5 w.heap.size 0 n n ⟨bl, off, none⟩ n cap (madeCells #[.int .u8 0] n) 5 (byteCells b n) Try.underlying22 Try.size5 hg (by rw [hl]; simp)
    (by
      intro j v hj
      obtain ⟨hj1, rfl⟩ := byteCells_at b n j v hj
      have := hc j hj1
      rw [add_plain, World.cell?_alloc_past _ _ _ hbl]
      exact this) (by rw [hl, hms]; omega) (byteCells_one b n)
  rw [hl] at hr
  have e1 : ((madeCells #[Value.int .u8 0] n).toList.take 0 ++ byteCells b n ++ (madeCells #[Value.int .u8 0] n).toList.drop (0 + n)).toArray = (byteCells b n).toArray := by
    rw [List.drop_eq_nil_of_le (by simp [hms])]; simp
  rw [e1] at hr
  have hh := setRow_heap (w.alloc (.cells (madeCells #[.int .u8 0] n) 5)) w.heap.size _ (byteCells b n).toArray 5 _ hg
  refine ⟨_, hr, below_setRow ((Below.refl _ _).alloc (Nat.le_refl _) _) (Nat.le_refl _) _, ?_, by simp, hh⟩
  intro k hk
  rw [cell_setRow_same _ _ _ _ _ _ _ hg]
  simp [byteCells, hk]

set_option maxHeartbeats 400000 in
theorem clone_any (b : Nat → Int) (bl off n cap : Nat) (w : World) (hn : n ≤ 1048576) (h0 : 0 < n)
    (hc : ∀ k, k < n → w.cell? ⟨bl, off + k, none⟩ = some (.int .u8 (b k))) :
    Calls Try.prog 8 #[.slice (some ⟨bl, off, none⟩) n cap] w fun e w' => e = .returned (.slice (some ⟨w.heap.size, 0, none⟩) n n) ∧
      Below w.heap.size w w' ∧ (∀ k, k < n → w'.cell? ⟨w.heap.size, k, none⟩ = some (.int .u8 (b k))) := by
  have hbl : bl < w.heap.size := World.block_lt_of_cell? _ _ (hc 0 h0)
  have qs : ∀ (w : World) (a : Option Addr) (n c n' c' : Nat), (binOp .eql 22 (.slice a n c) (.slice none n' c')).run Try.prog w = .ok (.bool a.isNone) w := fun w a n c n' c' => Lib.run_eql_slice_nil w _ _ a n c n' c' Try.underlying22
  have hmk := fun w => run_make_row' (P := Try.prog) 22 5 (.int .u8 0) 1 Try.underlying22 Try.info5 rfl .i64 .i64 n (by omega) (by omega) w
  obtain ⟨W2, hcp, hb, hcell, -, -⟩ := copy_new b bl off n cap w hbl hc
  go_enter Try.func8, Try.ntmps8
  go_wp2
  go_ret
  exact ⟨rfl, hb, hcell⟩
end Go.Proofs.Qxb6605573a
