/-
  THE WALK of zzParsePlace (6).
-/
import Derived.Test.Qxb6605582aDoorText
import Derived.Lib.Hide
namespace Go.Proofs.Qxb6605582aDoor
open Go.ChangeShapes Go.WideShapes Go.ChangeAt Go.RowKit
set_option linter.unusedVariables false

theorem readStep_at (s l : ByteArray) (P R : List UInt8) (i q : Int) (e : Nat) (w : World) (he : P.length + l.size + 1 + (Lib.itoa i).length + 1 = e) (hs : s.size ≤ 4194304) (ht : s.data.toList = P ++ (l.data.toList ++ 91 :: (Lib.itoa i ++ 93 :: R))) (hq : q = (P.length : Int)) (hb : brk l = false)
    (a0 : -9223372036854775808 ≤ i) (a1 : i ≤ 9223372036854775807) :
    Calls Tryd.prog 8 #[.string s, .int .i64 q] w fun x w' => x = .returned (.tuple #[.string l, .int .i64 i, .int .i64 (e : Int), .bool true]) ∧ w' = w := by
  subst he; exact readStep_text s l P R i q w hs ht hq hb a0 a1

theorem not_empty (s : ByteArray) (h : s.size ≠ 0) : s.toList.isEmpty = false := by
  cases hh : s.toList.isEmpty with
  | false => rfl
  | true =>
    exfalso
    have h1 : s.toList = [] := by simpa using hh
    have h2 : s.toList.length = s.size := by rw [ByteArray.toList_eq]; simp
    rw [h1] at h2
    simp at h2
    omega

set_option maxRecDepth 20000 in
set_option maxHeartbeats 400000 in
theorem parse_none (w : World) :
    Calls Tryd.prog 6 #[.string ⟨#[]⟩] w fun x w' => x = .returned (.tuple #[.int .i64 0, .string ⟨#[]⟩, .int .i64 0, .string ⟨#[]⟩, .int .i64 0, .bool true]) ∧ w' = w := by
  go_enter Tryd.func6, Tryd.ntmps6
  go_wp2
  exact bodyPost_ret (v := .tuple #[.int .i64 0, .string ⟨#[]⟩, .int .i64 0, .string ⟨#[]⟩, .int .i64 0, .bool true]) (by simp [results, Tryd.results6, go_sem]) rfl ⟨rfl, rfl⟩

set_option maxRecDepth 20000 in
set_option maxHeartbeats 400000 in
theorem parse_one (s l : ByteArray) (i : Int) (w : World) (hs : s.size ≤ 4194304) (ht : s.data.toList = l.data.toList ++ 91 :: (Lib.itoa i ++ [93])) (hb : brk l = false)
    (a0 : -9223372036854775808 ≤ i) (a1 : i ≤ 9223372036854775807) :
    Calls Tryd.prog 6 #[.string s] w fun x w' => x = .returned (.tuple #[.int .i64 1, .string l, .int .i64 i, .string ⟨#[]⟩, .int .i64 0, .bool true]) ∧ w' = w := by
  have hsz : s.size = l.size + ((Lib.itoa i).length + 1 + 1) := by
    have h1 : s.data.toList.length = s.size := by simp
    have h2 : l.data.toList.length = l.size := by simp
    rw [← h1, ht]
    simp only [List.length_append, List.length_cons, h2, List.length_nil]
  have hne := not_empty s (by omega)
  have HS : Hid (0 + l.size + 1 + (Lib.itoa i).length + 1 = s.size) := by show _ = _; omega
  have HT : Hid (s.data.toList = [] ++ (l.data.toList ++ 91 :: (Lib.itoa i ++ 93 :: []))) := by show _ = _; simpa using ht
  clear ht hsz
  go_enter Tryd.func6, Tryd.ntmps6
  go_wp2_with (go_at_call 8; refine (readStep_at s l [] [] i _ s.size _ HS.out hs HT.out (by simp) hb a0 a1).mono ?_; rintro e w' ⟨rfl, rfl⟩)
  exact bodyPost_ret (v := .tuple #[.int .i64 1, .string l, .int .i64 i, .string ⟨#[]⟩, .int .i64 0, .bool true]) (by simp [results, Tryd.results6, go_sem]) rfl ⟨rfl, rfl⟩

set_option maxRecDepth 20000 in
set_option maxHeartbeats 800000 in
theorem parse_two (s l m : ByteArray) (i j : Int) (w : World) (hs : s.size ≤ 4194304) (ht : s.data.toList = l.data.toList ++ 91 :: (Lib.itoa i ++ 93 :: 46 :: (m.data.toList ++ 91 :: (Lib.itoa j ++ [93])))) (hb : brk l = false) (hb2 : brk m = false)
    (a0 : -9223372036854775808 ≤ i) (a1 : i ≤ 9223372036854775807) (b0 : -9223372036854775808 ≤ j) (b1 : j ≤ 9223372036854775807) :
    Calls Tryd.prog 6 #[.string s] w fun x w' => x = .returned (.tuple #[.int .i64 2, .string l, .int .i64 i, .string m, .int .i64 j, .bool true]) ∧ w' = w := by
  have h2 : l.data.toList.length = l.size := by simp
  have h3 : m.data.toList.length = m.size := by simp
  have hsz : s.size = l.size + ((Lib.itoa i).length + (m.size + ((Lib.itoa j).length + 1 + 1) + 1 + 1) + 1) := by
    have h1 : s.data.toList.length = s.size := by simp
    rw [← h1, ht]
    simp only [List.length_append, List.length_cons, h2, h3, List.length_nil]
  have hne := not_empty s (by omega)
  obtain ⟨k, hk⟩ : ∃ k, 0 + l.size + 1 + (Lib.itoa i).length + 1 = k := ⟨_, rfl⟩
  have HT : Hid (s.data.toList = [] ++ (l.data.toList ++ 91 :: (Lib.itoa i ++ 93 :: (46 :: (m.data.toList ++ 91 :: (Lib.itoa j ++ [93])))))) := by show _ = _; simpa using ht
  obtain ⟨P, hP⟩ : ∃ P, P = l.data.toList ++ 91 :: (Lib.itoa i ++ [93, 46]) := ⟨_, rfl⟩
  have hPl : P.length = k + 1 := by rw [hP]; simp only [List.length_append, List.length_cons, h2, List.length_nil]; omega
  have HT2 : Hid (s.data.toList = P ++ (m.data.toList ++ 91 :: (Lib.itoa j ++ 93 :: []))) := by show _ = _; rw [hP, ht]; simp
  have h46 : byt s k = 46 := by
    rw [byt_list, HT2.out, List.getElem?_append_left (by omega), hP]
    rw [List.getElem?_append_right (by omega), show k - l.data.toList.length = (Lib.itoa i).length + 1 + 1 from by omega]
    rw [List.getElem?_cons_succ, List.getElem?_append_right (by omega), show (Lib.itoa i).length + 1 - (Lib.itoa i).length = 1 from by omega]
    rfl
  have hks : k < s.size := by omega
  have hx := byt_at s k hks
  have HK := Lib.hid hk
  have HS : Hid (P.length + m.size + 1 + (Lib.itoa j).length + 1 = s.size) := by show _ = _; omega
  have HP := Lib.hid hPl
  clear ht hsz hk hP hPl h2 h3
  go_enter Tryd.func6, Tryd.ntmps6
  go_wp2_with (go_at_call 8; refine (readStep_at s l [] _ i _ k _ HK.out hs HT.out (by simp) hb a0 a1).mono ?_; rintro e w' ⟨rfl, rfl⟩; refine Hid.out ?_)
  refine Lib.hid ?_
  go_wp2_with (go_at_call 8; refine (readStep_at s m P [] j _ s.size _ HS.out hs HT2.out (by rw [HP.out]; omega) hb2 b0 b1).mono ?_; rintro e w' ⟨rfl, rfl⟩)
  exact bodyPost_ret (v := .tuple #[.int .i64 2, .string l, .int .i64 i, .string m, .int .i64 j, .bool true]) (by simp [results, Tryd.results6, go_sem]) rfl ⟨rfl, rfl⟩
end Go.Proofs.Qxb6605582aDoor
