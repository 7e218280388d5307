/-
  THE WALK of the law FnPlaceStringReadsBack (3), its three ways through.
-/
import Derived.Test.Qxb6605582aDoorWalkE
namespace Go.Proofs.Qxb6605582aDoor
open Go.ChangeShapes Go.WideShapes Go.ChangeAt Go.RowKit
set_option linter.unusedVariables false

theorem brk_empty : brk ⟨#[]⟩ = false := by rfl
theorem mk_size (l : List UInt8) : (⟨l.toArray⟩ : ByteArray).size = l.length := by simp [ByteArray.size]

set_option maxRecDepth 20000 in
set_option maxHeartbeats 800000 in
theorem law_none (l1 : ByteArray) (i0 i1 : Int) (w : World) (ht : l1.size ≤ maxLen) (hn : l1.size ≤ 1048576) (hb1 : brk l1 = false) :
    Calls Tryd.prog 3 #[.string ⟨#[]⟩, .int .i64 i0, .string l1, .int .i64 i1] w fun e w' => e = .returned (.bool true) ∧ Below w.heap.size w w' := by
  have e0 : (⟨#[]⟩ : ByteArray).size = 0 := rfl
  have hd : decide ((⟨#[]⟩ : ByteArray).size + l1.size ≤ 1048576) = true := by simp [e0, hn]
  have hbe := brk_empty
  go_enter Tryd.func3, Tryd.ntmps3
  go_wp2_with fail
  refine (bytes_any ⟨#[]⟩ l1 i0 i1 _ (Nat.zero_le _) ht).mono ?_
  rintro e w' ⟨rfl, hw⟩
  have hw2 := hw.symm; subst hw2; clear hw
  rw [hd]
  go_wp2_with fail
  refine (bracket_any ⟨#[]⟩ _ (by omega)).mono ?_
  rintro e w' ⟨rfl, hw⟩
  have hw2 := hw.symm; subst hw2; clear hw
  rw [hbe]
  go_wp2_with fail
  refine (bracket_any l1 _ (by omega)).mono ?_
  rintro e w' ⟨rfl, hw⟩
  have hw2 := hw.symm; subst hw2; clear hw
  go_wp2_with fail
  refine (zz_none l1 i0 i1 _).mono ?_
  rintro e w1 ⟨rfl, hbel⟩
  go_wp2_with fail
  refine (parse_none _).mono ?_
  rintro e w' ⟨rfl, rfl⟩
  go_wp2
  go_ret
  exact ⟨rfl, hbel⟩

set_option maxRecDepth 20000 in
set_option maxHeartbeats 800000 in
theorem law_one (l0 l1 : ByteArray) (i0 i1 : Int) (w : World) (hs : l0.size ≤ maxLen) (ht : l1.size ≤ maxLen) (hn : l0.size + l1.size ≤ 1048576) (hb0 : brk l0 = false) (hb1 : brk l1 = false)
    (h0 : l0.toList.isEmpty = false) (h1 : l1.toList.isEmpty = true)
    (a0 : -9223372036854775808 ≤ i0) (a1 : i0 ≤ 9223372036854775807) (htab : Lib.TabIs Tryd.prog w Tryd.powName .u64 Lib.pow10Tab) :
    Calls Tryd.prog 3 #[.string l0, .int .i64 i0, .string l1, .int .i64 i1] w fun e w' => e = .returned (.bool true) ∧ Below w.heap.size w w' := by
  have hd : decide (l0.size + l1.size ≤ 1048576) = true := by simp [hn]
  have hl0 : l0.size ≤ 1048576 := by omega
  have hl1 : l1.size ≤ 1048576 := by omega
  have la := Lib.itoa_length_le i0 a0 a1
  obtain ⟨T, hT⟩ : ∃ T : ByteArray, T = ⟨(l0.data.toList ++ 91 :: (Lib.itoa i0 ++ [93])).toArray⟩ := ⟨_, rfl⟩
  have HTl : Hid (T.data.toList = l0.data.toList ++ 91 :: (Lib.itoa i0 ++ [93])) := by show _ = _; rw [hT]
  have hTs : T.size ≤ 4194304 := by
    have h2 : l0.data.toList.length = l0.size := by simp
    rw [hT, mk_size]
    simp only [List.length_append, List.length_cons, h2, List.length_nil]
    omega
  have HT := Lib.hid hT
  clear hT
  go_enter Tryd.func3, Tryd.ntmps3
  go_wp2_with fail
  refine (bytes_any l0 l1 i0 i1 _ hs ht).mono ?_
  rintro e w' ⟨rfl, hw⟩
  have hw2 := hw.symm; subst hw2; clear hw
  rw [hd]
  go_wp2_with fail
  refine (bracket_any l0 _ (by omega)).mono ?_
  rintro e w' ⟨rfl, hw⟩
  have hw2 := hw.symm; subst hw2; clear hw
  go_wp2_with fail
  refine (bracket_any l1 _ (by omega)).mono ?_
  rintro e w' ⟨rfl, hw⟩
  have hw2 := hw.symm; subst hw2; clear hw
  go_wp2_with fail
  refine (zz_one l0 l1 i0 i1 _ h0 h1 hn a0 a1 htab).mono ?_
  rintro e w1 ⟨rfl, hbel⟩
  rw [← HT.out]
  go_wp2_with fail
  refine (parse_one T l0 i0 _ hTs HTl.out hb0 a0 a1).mono ?_
  rintro e w' ⟨rfl, rfl⟩
  go_wp2
  go_ret
  exact ⟨rfl, hbel⟩

set_option maxRecDepth 20000 in
set_option maxHeartbeats 800000 in
theorem law_two (l0 l1 : ByteArray) (i0 i1 : Int) (w : World) (hs : l0.size ≤ maxLen) (ht : l1.size ≤ maxLen) (hn : l0.size + l1.size ≤ 1048576) (hb0 : brk l0 = false) (hb1 : brk l1 = false)
    (h0 : l0.toList.isEmpty = false) (h1 : l1.toList.isEmpty = false)
    (a0 : -9223372036854775808 ≤ i0) (a1 : i0 ≤ 9223372036854775807) (b0 : -9223372036854775808 ≤ i1) (b1 : i1 ≤ 9223372036854775807) (htab : Lib.TabIs Tryd.prog w Tryd.powName .u64 Lib.pow10Tab) :
    Calls Tryd.prog 3 #[.string l0, .int .i64 i0, .string l1, .int .i64 i1] w fun e w' => e = .returned (.bool true) ∧ Below w.heap.size w w' := by
  have hd : decide (l0.size + l1.size ≤ 1048576) = true := by simp [hn]
  have hl0 : l0.size ≤ 1048576 := by omega
  have hl1 : l1.size ≤ 1048576 := by omega
  have la := Lib.itoa_length_le i0 a0 a1
  have lb := Lib.itoa_length_le i1 b0 b1
  obtain ⟨T, hT⟩ : ∃ T : ByteArray, T = ⟨(l0.data.toList ++ 91 :: (Lib.itoa i0 ++ 93 :: 46 :: (l1.data.toList ++ 91 :: (Lib.itoa i1 ++ [93])))).toArray⟩ := ⟨_, rfl⟩
  have HTl : Hid (T.data.toList = l0.data.toList ++ 91 :: (Lib.itoa i0 ++ 93 :: 46 :: (l1.data.toList ++ 91 :: (Lib.itoa i1 ++ [93])))) := by show _ = _; rw [hT]
  have hTs : T.size ≤ 4194304 := by
    have h2 : l0.data.toList.length = l0.size := by simp
    have h3 : l1.data.toList.length = l1.size := by simp
    rw [hT, mk_size]
    simp only [List.length_append, List.length_cons, h2, h3, List.length_nil]
    omega
  have HT := Lib.hid hT
  clear hT
  go_enter Tryd.func3, Tryd.ntmps3
  go_wp2_with fail
  refine (bytes_any l0 l1 i0 i1 _ hs ht).mono ?_
  rintro e w' ⟨rfl, hw⟩
  have hw2 := hw.symm; subst hw2; clear hw
  rw [hd]
  go_wp2_with fail
  refine (bracket_any l0 _ (by omega)).mono ?_
  rintro e w' ⟨rfl, hw⟩
  have hw2 := hw.symm; subst hw2; clear hw
  go_wp2_with fail
  refine (bracket_any l1 _ (by omega)).mono ?_
  rintro e w' ⟨rfl, hw⟩
  have hw2 := hw.symm; subst hw2; clear hw
  go_wp2_with fail
  refine (zz_two l0 l1 i0 i1 _ h0 h1 hn a0 a1 b0 b1 htab).mono ?_
  rintro e w1 ⟨rfl, hbel⟩
  rw [← HT.out]
  go_wp2_with fail
  refine (parse_two T l0 l1 i0 i1 _ hTs HTl.out hb0 hb1 a0 a1 b0 b1).mono ?_
  rintro e w' ⟨rfl, rfl⟩
  go_wp2
  go_ret
  exact ⟨rfl, hbel⟩

/-- THE LAW, at every input -/
theorem law_any (l0 l1 : ByteArray) (i0 i1 : Int) (w : World) (hs : l0.size ≤ maxLen) (ht : l1.size ≤ maxLen)
    (a0 : -9223372036854775808 ≤ i0) (a1 : i0 ≤ 9223372036854775807) (b0 : -9223372036854775808 ≤ i1) (b1 : i1 ≤ 9223372036854775807) (htab : Lib.TabIs Tryd.prog w Tryd.powName .u64 Lib.pow10Tab) :
    Calls Tryd.prog 3 #[.string l0, .int .i64 i0, .string l1, .int .i64 i1] w fun e w' => e = .returned (.bool true) ∧ Below w.heap.size w w' := by
  by_cases hn : l0.size + l1.size ≤ 1048576
  · by_cases hb : brk l0 = true ∨ brk l1 = true
    · refine (law_brk l0 l1 i0 i1 w hs ht hn hb).mono ?_
      rintro e w' ⟨rfl, rfl⟩
      exact ⟨rfl, Below.refl _ _⟩
    · have hb0 : brk l0 = false := by cases h : brk l0 with
        | false => rfl
        | true => exact absurd (Or.inl h) hb
      have hb1 : brk l1 = false := by cases h : brk l1 with
        | false => rfl
        | true => exact absurd (Or.inr h) hb
      cases h0 : l0.toList.isEmpty with
      | true =>
        obtain rfl := empty_eq l0 h0
        exact law_none l1 i0 i1 w ht (by omega) hb1
      | false =>
        cases h1 : l1.toList.isEmpty with
        | true => exact law_one l0 l1 i0 i1 w hs ht hn hb0 hb1 h0 h1 a0 a1 htab
        | false => exact law_two l0 l1 i0 i1 w hs ht hn hb0 hb1 h0 h1 a0 a1 b0 b1 htab
  · refine (law_big l0 l1 i0 i1 w hs ht hn).mono ?_
    rintro e w' ⟨rfl, rfl⟩
    exact ⟨rfl, Below.refl _ _⟩
end Go.Proofs.Qxb6605582aDoor
