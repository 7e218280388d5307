/-
  THE WALK of the law FnPlaceStringReadsBack (3).
-/
import Derived.Test.Qxb6605582aDoorWalkC
import Derived.Test.Qxb6605582aDoorWalkD
namespace Go.Proofs.Qxb6605582aDoor
open Go.ChangeShapes Go.WideShapes Go.ChangeAt Go.RowKit
set_option linter.unusedVariables false

set_option maxRecDepth 20000 in
set_option maxHeartbeats 800000 in
theorem str_none (l1 : ByteArray) (i0 i1 : Int) (w : World) :
    Calls Tryd.prog 9 #[.agg #[.string ⟨#[]⟩, .int .i64 i0, .string l1, .int .i64 i1]] w fun e w' => e = .returned (.string ⟨#[]⟩) ∧ Below w.heap.size w w' := by
  have x0 : ∀ w, (Instr.index 31 (.agg #[.string ⟨#[]⟩, .int .i64 i0, .string l1, .int .i64 i1]) (.int .i64 0)).run Tryd.prog w = .ok (.agg #[.string ⟨#[]⟩, .int .i64 i0]) w := fun _ => by kernel_rfl
  have hcv : ∀ w : World, (convert 36 9 (.slice none 0 0)).run Tryd.prog w = .ok (.string ⟨#[]⟩) w := fun _ => by kernel_rfl
  go_enter Tryd.func9, Tryd.ntmps9
  go_wp2_with fail
  refine wp_loop_rounds 1 ?_
  rw [rounds_succ]
  go_wp2
  go_ret
  exact ⟨rfl, (((Below.refl _ _).alloc (Nat.le_refl _) _).alloc (by simp) _)⟩

theorem zz_none (l1 : ByteArray) (i0 i1 : Int) (w : World) :
    Calls Tryd.prog 7 #[.string ⟨#[]⟩, .int .i64 i0, .string l1, .int .i64 i1] w fun e w' => e = .returned (.string ⟨#[]⟩) ∧ Below w.heap.size w w' := by
  go_enter Tryd.func7, Tryd.ntmps7
  go_wp2_with (go_at_call 9; refine (str_none l1 i0 i1 _).mono ?_; rintro e w' ⟨rfl, hb⟩)
  go_ret
  exact ⟨rfl, hb⟩

theorem zz_one (l0 l1 : ByteArray) (i0 i1 : Int) (w : World) (h0 : l0.toList.isEmpty = false) (h1 : l1.toList.isEmpty = true) (hs0 : l0.size + l1.size ≤ 1048576)
    (a0 : -9223372036854775808 ≤ i0) (a1 : i0 ≤ 9223372036854775807) (htab : Lib.TabIs Tryd.prog w Tryd.powName .u64 Lib.pow10Tab) :
    Calls Tryd.prog 7 #[.string l0, .int .i64 i0, .string l1, .int .i64 i1] w fun e w' => e = .returned (.string ⟨(l0.data.toList ++ 91 :: (Lib.itoa i0 ++ [93])).toArray⟩) ∧ Below w.heap.size w w' := by
  go_enter Tryd.func7, Tryd.ntmps7
  go_wp2_with (go_at_call 9; refine (str_one l0 l1 i0 i1 _ h0 h1 hs0 a0 a1 htab).mono ?_; rintro e w' ⟨rfl, hb⟩)
  go_ret
  exact ⟨rfl, hb⟩

theorem zz_two (l0 l1 : ByteArray) (i0 i1 : Int) (w : World) (h0 : l0.toList.isEmpty = false) (h1 : l1.toList.isEmpty = false) (hs0 : l0.size + l1.size ≤ 1048576)
    (a0 : -9223372036854775808 ≤ i0) (a1 : i0 ≤ 9223372036854775807) (b0 : -9223372036854775808 ≤ i1) (b1 : i1 ≤ 9223372036854775807) (htab : Lib.TabIs Tryd.prog w Tryd.powName .u64 Lib.pow10Tab) :
    Calls Tryd.prog 7 #[.string l0, .int .i64 i0, .string l1, .int .i64 i1] w fun e w' => e = .returned (.string ⟨(l0.data.toList ++ 91 :: (Lib.itoa i0 ++ 93 :: 46 :: (l1.data.toList ++ 91 :: (Lib.itoa i1 ++ [93])))).toArray⟩) ∧ Below w.heap.size w w' := by
  go_enter Tryd.func7, Tryd.ntmps7
  go_wp2_with (go_at_call 9; refine (str_two l0 l1 i0 i1 _ h0 h1 hs0 a0 a1 b0 b1 htab).mono ?_; rintro e w' ⟨rfl, hb⟩)
  go_ret
  exact ⟨rfl, hb⟩

theorem empty_eq (s : ByteArray) (h : s.toList.isEmpty = true) : s = ⟨#[]⟩ := by
  rw [ByteArray.toList_eq] at h
  apply ByteArray.ext
  apply Array.ext'
  simpa using h

/-- too long -/
theorem law_big (l0 l1 : ByteArray) (i0 i1 : Int) (w : World) (hs : l0.size ≤ maxLen) (ht : l1.size ≤ maxLen) (hn : ¬ l0.size + l1.size ≤ 1048576) :
    Calls Tryd.prog 3 #[.string l0, .int .i64 i0, .string l1, .int .i64 i1] w fun e w' => e = .returned (.bool true) ∧ w' = w := by
  have hd : decide (l0.size + l1.size ≤ 1048576) = false := by simp [hn]
  go_enter Tryd.func3, Tryd.ntmps3
  go_wp2_with (go_at_call 4; refine (bytes_any _ _ _ _ _ hs ht).mono ?_; rintro e w' ⟨rfl, rfl⟩)
  go_ret
  exact ⟨rfl, rfl⟩

set_option maxHeartbeats 400000 in
theorem law_brk (l0 l1 : ByteArray) (i0 i1 : Int) (w : World) (hs : l0.size ≤ maxLen) (ht : l1.size ≤ maxLen) (hn : l0.size + l1.size ≤ 1048576) (hb : brk l0 = true ∨ brk l1 = true) :
    Calls Tryd.prog 3 #[.string l0, .int .i64 i0, .string l1, .int .i64 i1] w fun e w' => e = .returned (.bool true) ∧ w' = w := by
  have hd : decide (l0.size + l1.size ≤ 1048576) = true := by simp [hn]
  have hl0 : l0.size ≤ 1048576 := by omega
  have hl1 : l1.size ≤ 1048576 := by omega
  cases hb0 : brk l0 with
  | true =>
    go_enter Tryd.func3, Tryd.ntmps3
    go_wp2_with (first | (go_at_call 4; refine (bytes_any _ _ _ _ _ hs ht).mono ?_; rintro e w' ⟨rfl, rfl⟩) | (go_at_call 5; refine (bracket_any l0 _ (by omega)).mono ?_; rintro e w' ⟨rfl, rfl⟩))
    go_ret
    exact ⟨rfl, rfl⟩
  | false =>
    have hb1 : brk l1 = true := by rcases hb with h | h; · rw [hb0] at h; cases h
                                   · exact h
    go_enter Tryd.func3, Tryd.ntmps3
    go_wp2_with (first | (go_at_call 4; refine (bytes_any _ _ _ _ _ hs ht).mono ?_; rintro e w' ⟨rfl, rfl⟩) | fail)
    refine (bracket_any l0 _ (by omega)).mono ?_
    rintro e w' ⟨rfl, rfl⟩
    go_wp2_with fail
    refine (bracket_any l1 _ (by omega)).mono ?_
    rintro e w' ⟨rfl, rfl⟩
    go_wp2
    go_ret
    exact ⟨rfl, rfl⟩
end Go.Proofs.Qxb6605582aDoor
