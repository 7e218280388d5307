/-
  THE WALK of place.String (9), ZZPlaceString (7).
-/
import Derived.Test.Qxb6605582aDoorWalkA
import Derived.Test.Qxb6605582aDoorShelf
import Derived.Lib.AppendIntMem
import Derived.Lib.AppendStr
import Derived.Lib.ItoaLen
import Derived.Lib.Slices
import Derived.Lib.Hide
import Derived.Laws.IdiomStrings
import Derived.OwnWalk
import Derived.BigCall
import Derived.LoopN
namespace Go.Proofs.Qxb6605582aDoor
open Go.ChangeShapes Go.WideShapes Go.ChangeAt Go.RowKit
set_option linter.unusedVariables false

theorem Tryd.info5 : (Tryd.prog.info? 5).map (fun i => (i.zero, i.size, i.bytes)) = some (some (.int .u8 0), 1, 1) := by kernel_rfl

theorem kept_cell {W W' : World} {row : Option Nat} {sb o : Nat} {x : Value} (hg : W.grownBy W' row) (h : W.cell? ⟨sb, o, none⟩ = some x) (hne : row ≠ some sb) : W'.cell? ⟨sb, o, none⟩ = some x := by
  have hlt := World.block_lt_of_cell? _ _ h
  rw [World.cell?_of_block (w := W) (hg.block sb hlt (fun e => hne e.symm))]
  exact h
theorem kept_alloc {W : World} {sb o : Nat} {x : Value} (ob : Obj) (h : W.cell? ⟨sb, o, none⟩ = some x) : (W.alloc ob).cell? ⟨sb, o, none⟩ = some x := by
  have hlt := World.block_lt_of_cell? _ _ h
  rw [World.cell?_alloc_past _ _ _ hlt]; exact h

theorem kept_block {W W' : World} {row : Option Nat} {sb : Nat} {x : Obj} (hg : W.grownBy W' row) (h : W.heap[sb]? = some x) (hne : row ≠ some sb) : W'.heap[sb]? = some x := by
  have hlt : sb < W.heap.size := (Array.getElem?_eq_some_iff.1 h).1
  rw [hg.block sb hlt (fun e => hne e.symm)]
  exact h
theorem block_alloc {W : World} {sb : Nat} {x : Obj} (ob : Obj) (h : W.heap[sb]? = some x) : (W.alloc ob).heap[sb]? = some x := by
  have hlt : sb < W.heap.size := (Array.getElem?_eq_some_iff.1 h).1
  rw [Below.heap_alloc _ _ _ hlt]; exact h
theorem cell_block {W : World} {sb o t : Nat} {cs : Array Value} (h : W.heap[sb]? = some (.cells cs t (0, 0))) : W.cell? ⟨sb, o, none⟩ = cs[o]? := by
  simp [World.cell?, h]
/-- a row of bytes is not the block of a step -/
theorem row_ne {W : World} {B n sb : Nat} {v : Value} {xs : List Value} {cs : Array Value} (hown : W.ownsRow B 5 1 v n xs) (hh : W.heap[sb]? = some (.cells cs 30 (0, 0))) : v.ownBlock ≠ some sb := by
  intro e
  rcases hown.2 with ⟨e1, -⟩ | ⟨g, cap, cur, e1, -, hg, -⟩
  · rw [e1] at e; simp [Value.ownBlock] at e
  · rw [e1] at e
    simp [Value.ownBlock] at e
    subst e
    rw [hg] at hh
    simp at hh

/-- one more byte: the row behind 'append(b, c)', b an owned row -/
theorem one_new (W : World) (c : Int) : ∀ j u, [Value.int .u8 c][j]? = some u → (W.alloc (.cells #[.int .u8 c] 5)).cell? ((⟨W.heap.size, 0, none⟩ : Addr).add j) = some u := by
  intro j u hj
  match j, hj with
  | 0, hj => simp at hj; subst hj; simp [Addr.add]
theorem one_cell (c : Int) : ∀ u ∈ [Value.int .u8 c], u.oneCell' = true := by
  intro u hu; simp at hu; subst hu; rfl

set_option maxRecDepth 20000 in
set_option maxHeartbeats 2000000 in
theorem str_one (l0 l1 : ByteArray) (i0 i1 : Int) (w : World) (h0 : l0.toList.isEmpty = false) (h1 : l1.toList.isEmpty = true) (hs0 : l0.size + l1.size ≤ 1048576)
    (a0 : -9223372036854775808 ≤ i0) (a1 : i0 ≤ 9223372036854775807) (htab : Lib.TabIs Tryd.prog w Tryd.powName .u64 Lib.pow10Tab) :
    Calls Tryd.prog 9 #[.agg #[.string l0, .int .i64 i0, .string l1, .int .i64 i1]] w fun e w' => e = .returned (.string ⟨(l0.data.toList ++ 91 :: (Lib.itoa i0 ++ [93])).toArray⟩) ∧ Below w.heap.size w w' := by
  obtain ⟨ti, hi, hz0, hz1, hz2⟩ := info_parts Tryd.info5
  have hT := Lib.tabBelow_of_tabIs htab
  have la := Lib.itoa_length_le i0 a0 a1
  have x0 : ∀ w, (Instr.index 31 (.agg #[.string l0, .int .i64 i0, .string l1, .int .i64 i1]) (.int .i64 0)).run Tryd.prog w = .ok (.agg #[.string l0, .int .i64 i0]) w := fun _ => by kernel_rfl
  have x1 : ∀ w, (Instr.index 31 (.agg #[.string l0, .int .i64 i0, .string l1, .int .i64 i1]) (.int .i64 1)).run Tryd.prog w = .ok (.agg #[.string l1, .int .i64 i1]) w := fun _ => by kernel_rfl
  go_enter Tryd.func9, Tryd.ntmps9
  go_wp2_with fail
  refine wp_loop_rounds 3 ?_
  rw [rounds_succ]
  go_wp2_with (at_builtin; refine Lib.wpList_append_own_string _ rfl (.tmp 20) (.tmp 22) 36 9 rfl (w.heap.size + 2) 5 ti Tryd.underlying36 Tryd.underlying9 hi hz0 hz1 hz2 (.slice none 0 0) 0 [] rfl (World.ownsRow_nil _ _ _ _) l0 rfl (by unfold maxLen; omega) (by omega) (by simp) ?_)
  intro v1 W1 hown1 hg1 _
  have hb1 : Below w.heap.size w W1 := (((Below.refl _ _).alloc (Nat.le_refl _) _).alloc (by simp) _).grown hg1 (by simp; omega) (by intro k hk; simp [Value.ownBlock] at hk)
  have hz1s : w.heap.size + 2 ≤ W1.heap.size := by have := hg1.size; simpa using this
  have c1 : W1.cell? ⟨w.heap.size + 1, 1, none⟩ = some (.int .i64 i0) := kept_cell hg1 (by simp [World.cell?_alloc_at]) (by simp [Value.ownBlock])
  clear hg1
  go_wp2_with (at_builtin; refine wpList_append_own _ rfl (.tmp 24) (.tmp 25) 36 rfl (w.heap.size + 2) 5 ti (.int .u8 0) 1 1 Tryd.underlying36 hi hz0 hz1 hz2 rfl (by decide) _ _ _ rfl (hown1.alloc _) ⟨W1.heap.size, 0, none⟩ 1 1 [.int .u8 91] rfl rfl (one_new _ _) (one_cell _) (by unfold maxLen; omega) (by omega) (by simp; omega) ?_)
  intro v2 W2 hown2 hg2 _
  have hb2 : Below w.heap.size w W2 := (hb1.alloc (by omega) _).grown hg2 (by simp; omega) (fun k hk => by have := (hown1.lt k hk).1; omega)
  have hz2s : w.heap.size + 2 ≤ W2.heap.size := by have := hg2.size; simp at this; omega
  have c2 : W2.cell? ⟨w.heap.size + 1, 1, none⟩ = some (.int .i64 i0) := kept_cell hg2 (kept_alloc _ c1) (fun e => by have := (hown1.lt _ e).1; omega)
  have hT2 : Lib.TabBelow Tryd.prog (w.heap.size + 2) W2 Tryd.powName .u64 Lib.pow10Tab := fun w' hb => (hT.on hb2) w' (hb.mono (by omega))
  clear hg2 c1 hown1
  go_wp2_with (go_at_call 10; refine (Tryd.strconv_AppendInt_10 (w.heap.size + 2) _ i0 a0 a1 v2 _ W2 hown2 hz2s (by omega) hT2).mono ?_; rintro e W3 ⟨v3, rfl, hown3, hnx3, -⟩; refine Hid.out ?_)
  refine Lib.hid ?_
  have hb3 : Below w.heap.size w W3 := hb2.trans (hnx3.mono (by omega))
  have hz3s : w.heap.size + 2 ≤ W3.heap.size := by have := hnx3.size; omega
  clear hnx3 c2 hown2 hT2
  go_wp2_with (at_builtin; refine wpList_append_own _ rfl (.tmp 31) (.tmp 32) 36 rfl (w.heap.size + 2) 5 ti (.int .u8 0) 1 1 Tryd.underlying36 hi hz0 hz1 hz2 rfl (by decide) _ _ _ rfl (hown3.alloc _) ⟨W3.heap.size, 0, none⟩ 1 1 [.int .u8 93] rfl rfl (one_new _ _) (one_cell _) (by unfold maxLen; omega) (by omega) (by simp; omega) ?_)
  intro v4 W4 hown4 hg4 _
  have hb4 : Below w.heap.size w W4 := (hb3.alloc (by omega) _).grown hg4 (by simp; omega) (fun k hk => by have := (hown3.lt k hk).1; omega)
  have hz4s : w.heap.size + 2 ≤ W4.heap.size := by have := hg4.size; simp at this; omega
  have hlt4 : ∀ k, v4.ownBlock = some k → w.heap.size + 2 ≤ k ∧ k < W4.heap.size := hown4.lt
  obtain ⟨L1, hL1⟩ : ∃ L1, L1 = l0.data.toList ++ 91 :: (Lib.itoa i0 ++ [93]) := ⟨_, rfl⟩
  have ln1 : L1.length = l0.size + 1 + (Lib.itoa i0).length + 1 := by rw [hL1]; simp; omega
  have hown5 : W4.ownsRow (w.heap.size + 2) 5 1 v4 L1.length (Lib.byteCells L1) := by
    rw [ln1, hL1]
    have e : Lib.byteCells (l0.data.toList ++ 91 :: (Lib.itoa i0 ++ [93])) = Lib.strCells l0 ++ Value.int .u8 91 :: (Lib.byteCells (Lib.itoa i0) ++ [Value.int .u8 93]) := by
      simp [Lib.byteCells, Lib.strCells]
    rw [e]; exact hown4
  have HL1 : Hid (L1 = l0.data.toList ++ 91 :: (Lib.itoa i0 ++ [93])) := hL1
  have Hln1 : Hid (L1.length = l0.size + 1 + (Lib.itoa i0).length + 1) := ln1
  clear hL1 ln1 hown4 hown3 hg4 hb1 hb2 hb3
  go_wp2_with fail
  rw [rounds_succ]
  have hbA : Below w.heap.size w (W4.alloc (.cells #[.string l1, .int .i64 i1] 30)) := hb4.alloc (by omega) _
  have hownA := hown5.alloc (.cells #[.string l1, .int .i64 i1] 30)
  have hpos : 0 < L1.length := by have := Hln1.out; omega
  rcases hownA.2 with ⟨-, h00⟩ | ⟨g, cap, cur, rfl, -, -, -, -, -, -⟩
  · omega
  · have hcv := run_convert_bytes_back (P := Tryd.prog) (W4.alloc (.cells #[.string l1, .int .i64 i1] 30)) 36 9 5 ⟨g, 0, none⟩ cap L1 Tryd.underlying36 Tryd.underlying5 Tryd.underlying9 (fun j hj => hownA.cells (g := g) rfl j _ (by simp [Lib.byteCells, hj]))
    clear hown5 hownA
    go_wp2
    go_ret
    have hl := HL1.out
    subst hl
    exact ⟨rfl, hbA⟩

set_option maxRecDepth 20000 in
set_option maxHeartbeats 2000000 in
theorem str_two (l0 l1 : ByteArray) (i0 i1 : Int) (w : World) (h0 : l0.toList.isEmpty = false) (h1 : l1.toList.isEmpty = false) (hs0 : l0.size + l1.size ≤ 1048576)
    (a0 : -9223372036854775808 ≤ i0) (a1 : i0 ≤ 9223372036854775807) (b0 : -9223372036854775808 ≤ i1) (b1 : i1 ≤ 9223372036854775807) (htab : Lib.TabIs Tryd.prog w Tryd.powName .u64 Lib.pow10Tab) :
    Calls Tryd.prog 9 #[.agg #[.string l0, .int .i64 i0, .string l1, .int .i64 i1]] w fun e w' => e = .returned (.string ⟨(l0.data.toList ++ 91 :: (Lib.itoa i0 ++ 93 :: 46 :: (l1.data.toList ++ 91 :: (Lib.itoa i1 ++ [93])))).toArray⟩) ∧ Below w.heap.size w w' := by
  obtain ⟨ti, hi, hz0, hz1, hz2⟩ := info_parts Tryd.info5
  have hT := Lib.tabBelow_of_tabIs htab
  have la := Lib.itoa_length_le i0 a0 a1
  have x0 : ∀ w, (Instr.index 31 (.agg #[.string l0, .int .i64 i0, .string l1, .int .i64 i1]) (.int .i64 0)).run Tryd.prog w = .ok (.agg #[.string l0, .int .i64 i0]) w := fun _ => by kernel_rfl
  have x1 : ∀ w, (Instr.index 31 (.agg #[.string l0, .int .i64 i0, .string l1, .int .i64 i1]) (.int .i64 1)).run Tryd.prog w = .ok (.agg #[.string l1, .int .i64 i1]) w := fun _ => by kernel_rfl
  go_enter Tryd.func9, Tryd.ntmps9
  go_wp2_with fail
  refine wp_loop_rounds 3 ?_
  rw [rounds_succ]
  go_wp2_with (at_builtin; refine Lib.wpList_append_own_string _ rfl (.tmp 20) (.tmp 22) 36 9 rfl (w.heap.size + 2) 5 ti Tryd.underlying36 Tryd.underlying9 hi hz0 hz1 hz2 (.slice none 0 0) 0 [] rfl (World.ownsRow_nil _ _ _ _) l0 rfl (by unfold maxLen; omega) (by omega) (by simp) ?_)
  intro v1 W1 hown1 hg1 _
  have hb1 : Below w.heap.size w W1 := (((Below.refl _ _).alloc (Nat.le_refl _) _).alloc (by simp) _).grown hg1 (by simp; omega) (by intro k hk; simp [Value.ownBlock] at hk)
  have hz1s : w.heap.size + 2 ≤ W1.heap.size := by have := hg1.size; simpa using this
  have c1 : W1.cell? ⟨w.heap.size + 1, 1, none⟩ = some (.int .i64 i0) := kept_cell hg1 (by simp [World.cell?_alloc_at]) (by simp [Value.ownBlock])
  clear hg1
  go_wp2_with (at_builtin; refine wpList_append_own _ rfl (.tmp 24) (.tmp 25) 36 rfl (w.heap.size + 2) 5 ti (.int .u8 0) 1 1 Tryd.underlying36 hi hz0 hz1 hz2 rfl (by decide) _ _ _ rfl (hown1.alloc _) ⟨W1.heap.size, 0, none⟩ 1 1 [.int .u8 91] rfl rfl (one_new _ _) (one_cell _) (by unfold maxLen; omega) (by omega) (by simp; omega) ?_)
  intro v2 W2 hown2 hg2 _
  have hb2 : Below w.heap.size w W2 := (hb1.alloc (by omega) _).grown hg2 (by simp; omega) (fun k hk => by have := (hown1.lt k hk).1; omega)
  have hz2s : w.heap.size + 2 ≤ W2.heap.size := by have := hg2.size; simp at this; omega
  have c2 : W2.cell? ⟨w.heap.size + 1, 1, none⟩ = some (.int .i64 i0) := kept_cell hg2 (kept_alloc _ c1) (fun e => by have := (hown1.lt _ e).1; omega)
  have hT2 : Lib.TabBelow Tryd.prog (w.heap.size + 2) W2 Tryd.powName .u64 Lib.pow10Tab := fun w' hb => (hT.on hb2) w' (hb.mono (by omega))
  clear hg2 c1 hown1
  go_wp2_with (go_at_call 10; refine (Tryd.strconv_AppendInt_10 (w.heap.size + 2) _ i0 a0 a1 v2 _ W2 hown2 hz2s (by omega) hT2).mono ?_; rintro e W3 ⟨v3, rfl, hown3, hnx3, -⟩; refine Hid.out ?_)
  refine Lib.hid ?_
  have hb3 : Below w.heap.size w W3 := hb2.trans (hnx3.mono (by omega))
  have hz3s : w.heap.size + 2 ≤ W3.heap.size := by have := hnx3.size; omega
  clear hnx3 c2 hown2 hT2
  go_wp2_with (at_builtin; refine wpList_append_own _ rfl (.tmp 31) (.tmp 32) 36 rfl (w.heap.size + 2) 5 ti (.int .u8 0) 1 1 Tryd.underlying36 hi hz0 hz1 hz2 rfl (by decide) _ _ _ rfl (hown3.alloc _) ⟨W3.heap.size, 0, none⟩ 1 1 [.int .u8 93] rfl rfl (one_new _ _) (one_cell _) (by unfold maxLen; omega) (by omega) (by simp; omega) ?_)
  intro v4 W4 hown4 hg4 _
  have hb4 : Below w.heap.size w W4 := (hb3.alloc (by omega) _).grown hg4 (by simp; omega) (fun k hk => by have := (hown3.lt k hk).1; omega)
  have hz4s : w.heap.size + 2 ≤ W4.heap.size := by have := hg4.size; simp at this; omega
  have hlt4 : ∀ k, v4.ownBlock = some k → w.heap.size + 2 ≤ k ∧ k < W4.heap.size := hown4.lt
  obtain ⟨L1, hL1⟩ : ∃ L1, L1 = l0.data.toList ++ 91 :: (Lib.itoa i0 ++ [93]) := ⟨_, rfl⟩
  have ln1 : L1.length = l0.size + 1 + (Lib.itoa i0).length + 1 := by rw [hL1]; simp; omega
  have hown5 : W4.ownsRow (w.heap.size + 2) 5 1 v4 L1.length (Lib.byteCells L1) := by
    rw [ln1, hL1]
    have e : Lib.byteCells (l0.data.toList ++ 91 :: (Lib.itoa i0 ++ [93])) = Lib.strCells l0 ++ Value.int .u8 91 :: (Lib.byteCells (Lib.itoa i0) ++ [Value.int .u8 93]) := by
      simp [Lib.byteCells, Lib.strCells]
    rw [e]; exact hown4
  have HL1 : Hid (L1 = l0.data.toList ++ 91 :: (Lib.itoa i0 ++ [93])) := hL1
  have Hln1 : Hid (L1.length = l0.size + 1 + (Lib.itoa i0).length + 1) := ln1
  clear hL1 ln1 hown4 hown3 hg4 hb1 hb2 hb3
  go_wp2_with fail
  rw [rounds_succ]
  have lb := Lib.itoa_length_le i1 b0 b1
  have hlnb : L1.length ≤ l0.size + 23 := by have := Hln1.out; omega
  clear hlt4
  have hownB := hown5.alloc (.cells #[.string l1, .int .i64 i1] 30)
  have hbB : Below w.heap.size w (W4.alloc (.cells #[.string l1, .int .i64 i1] 30)) := hb4.alloc (by omega) _
  have kB : (W4.alloc (.cells #[.string l1, .int .i64 i1] 30)).heap[W4.heap.size]? = some (.cells #[.string l1, .int .i64 i1] 30 (0, 0)) := heap_alloc_new _ _
  have KB := Lib.hid kB
  clear kB hown5
  go_wp2_with (at_builtin; refine wpList_append_own _ rfl (.tmp 17) (.tmp 18) 36 rfl (w.heap.size + 2) 5 ti (.int .u8 0) 1 1 Tryd.underlying36 hi hz0 hz1 hz2 rfl (by decide) v4 _ _ rfl (hownB.alloc _) ⟨W4.heap.size + 1, 0, none⟩ 1 1 [.int .u8 46] rfl rfl (by have := one_new (W4.alloc (.cells #[.string l1, .int .i64 i1] 30)) 46; simpa using this) (one_cell _) (by unfold maxLen; omega) (by omega) (by simp; omega) ?_)
  intro v5 W5 hown6 hg5 _
  have hb5 : Below w.heap.size w W5 := (hbB.alloc (by simp; omega) _).grown hg5 (by simp; omega) (fun k hk => by have := (hownB.lt k hk).1; omega)
  have hz5s : w.heap.size + 2 ≤ W5.heap.size := by have := hg5.size; simp at this; omega
  have k5 := kept_block hg5 (block_alloc _ KB.out) (row_ne hownB KB.out)
  have c50 : W5.cell? ⟨W4.heap.size, 0, none⟩ = some (.string l1) := cell_block k5
  have K5 := Lib.hid k5
  clear k5 KB hg5 hownB hbB
  go_wp2_with (at_builtin; refine Lib.wpList_append_own_string _ rfl (.tmp 20) (.tmp 22) 36 9 rfl (w.heap.size + 2) 5 ti Tryd.underlying36 Tryd.underlying9 hi hz0 hz1 hz2 v5 _ _ rfl hown6 l1 rfl (by unfold maxLen; omega) (by omega) (by omega) ?_)
  intro v6 W6 hown7 hg6 _
  have hb6 : Below w.heap.size w W6 := hb5.grown hg6 (by omega) (fun k hk => by have := (hown6.lt k hk).1; omega)
  have hz6s : w.heap.size + 2 ≤ W6.heap.size := by have := hg6.size; omega
  have k6 := kept_block hg6 K5.out (row_ne hown6 K5.out)
  have c61 : W6.cell? ⟨W4.heap.size, 1, none⟩ = some (.int .i64 i1) := cell_block k6
  have K6 := Lib.hid k6
  clear k6 K5 hg6 hown6 c50 hb5
  go_wp2_with (at_builtin; refine wpList_append_own _ rfl (.tmp 24) (.tmp 25) 36 rfl (w.heap.size + 2) 5 ti (.int .u8 0) 1 1 Tryd.underlying36 hi hz0 hz1 hz2 rfl (by decide) _ _ _ rfl (hown7.alloc _) ⟨W6.heap.size, 0, none⟩ 1 1 [.int .u8 91] rfl rfl (one_new _ _) (one_cell _) (by unfold maxLen; omega) (by omega) (by simp; omega) ?_)
  intro v7 W7 hown8 hg7 _
  have hb7 : Below w.heap.size w W7 := (hb6.alloc (by omega) _).grown hg7 (by simp; omega) (fun k hk => by have := (hown7.lt k hk).1; omega)
  have hz7s : w.heap.size + 2 ≤ W7.heap.size := by have := hg7.size; simp at this; omega
  have k7 := kept_block hg7 (block_alloc _ K6.out) (row_ne hown7 K6.out)
  have c71 : W7.cell? ⟨W4.heap.size, 1, none⟩ = some (.int .i64 i1) := cell_block k7
  have hT7 : Lib.TabBelow Tryd.prog (w.heap.size + 2) W7 Tryd.powName .u64 Lib.pow10Tab := fun w' hb => (hT.on hb7) w' (hb.mono (by omega))
  clear k7 K6 hg7 hown7 c61 hb6
  go_wp2_with (go_at_call 10; refine (Tryd.strconv_AppendInt_10 (w.heap.size + 2) _ i1 b0 b1 v7 _ W7 hown8 hz7s (by omega) hT7).mono ?_; rintro e W8 ⟨v8, rfl, hown9, hnx8, -⟩; refine Hid.out ?_)
  refine Lib.hid ?_
  have hb8 : Below w.heap.size w W8 := hb7.trans (hnx8.mono (by omega))
  have hz8s : w.heap.size + 2 ≤ W8.heap.size := by have := hnx8.size; omega
  clear hnx8 c71 hown8 hT7 hb7
  go_wp2_with (at_builtin; refine wpList_append_own _ rfl (.tmp 31) (.tmp 32) 36 rfl (w.heap.size + 2) 5 ti (.int .u8 0) 1 1 Tryd.underlying36 hi hz0 hz1 hz2 rfl (by decide) _ _ _ rfl (hown9.alloc _) ⟨W8.heap.size, 0, none⟩ 1 1 [.int .u8 93] rfl rfl (one_new _ _) (one_cell _) (by unfold maxLen; omega) (by omega) (by simp; omega) ?_)
  intro v9 W9 hown10 hg9 _
  have hb9 : Below w.heap.size w W9 := (hb8.alloc (by omega) _).grown hg9 (by simp; omega) (fun k hk => by have := (hown9.lt k hk).1; omega)
  obtain ⟨L2, hL2⟩ : ∃ L2, L2 = l0.data.toList ++ 91 :: (Lib.itoa i0 ++ 93 :: 46 :: (l1.data.toList ++ 91 :: (Lib.itoa i1 ++ [93]))) := ⟨_, rfl⟩
  have ln2 : L2.length = L1.length + 1 + l1.size + 1 + (Lib.itoa i1).length + 1 := by rw [hL2, Hln1.out]; simp; omega
  have hown11 : W9.ownsRow (w.heap.size + 2) 5 1 v9 L2.length (Lib.byteCells L2) := by
    rw [ln2, hL2]
    have e : Lib.byteCells (l0.data.toList ++ 91 :: (Lib.itoa i0 ++ 93 :: 46 :: (l1.data.toList ++ 91 :: (Lib.itoa i1 ++ [93])))) = Lib.byteCells L1 ++ Value.int .u8 46 :: (Lib.strCells l1 ++ Value.int .u8 91 :: (Lib.byteCells (Lib.itoa i1) ++ [Value.int .u8 93])) := by
      rw [HL1.out]
      simp [Lib.byteCells, Lib.strCells]
    rw [e]; exact hown10
  have HL2 := Lib.hid hL2
  have hpos : 0 < L2.length := by omega
  clear hL2 ln2 hown10 hown9 hg9 hb8 hb4
  rcases hown11.2 with ⟨-, h00⟩ | ⟨g, cap, cur, rfl, -, -, -, -, -, -⟩
  · omega
  · have hcv := run_convert_bytes_back (P := Tryd.prog) W9 36 9 5 ⟨g, 0, none⟩ cap L2 Tryd.underlying36 Tryd.underlying5 Tryd.underlying9 (fun j hj => hown11.cells (g := g) rfl j _ (by simp [Lib.byteCells, hj]))
    clear hown11
    go_wp2_with fail
    rw [rounds_succ]
    go_wp2
    go_ret
    have hl := HL2.out
    subst hl
    exact ⟨rfl, hb9⟩

end Go.Proofs.Qxb6605582aDoor
