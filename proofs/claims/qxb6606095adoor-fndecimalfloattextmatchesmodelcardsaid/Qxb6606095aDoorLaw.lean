/-
  THE LAW FnDecimalFloatTextMatchesModel (5).
-/
import Derived.Test.Qxb6606095aDoorText
namespace Go.Proofs.Qxb6606095aDoor
open Go.ChangeShapes Go.WideShapes Go.ChangeAt Go.RowKit Go.Sort
set_option linter.unusedVariables false

theorem mant_eq (s : ByteArray) : mant' s = mant s := by
  unfold mant' mant
  split
  · apply ba_ext
    simp only [ba_append, List.append_assoc]
  · rfl

theorem empty_eq (s : ByteArray) (h : s.toList.isEmpty = true) : s = ⟨#[]⟩ := by
  rw [ByteArray.toList_eq] at h
  apply ba_ext
  simpa using h
theorem pos_size (s : ByteArray) (h : s.toList.isEmpty = false) : 0 < s.size := by
  rw [ByteArray.toList_eq] at h
  have hz := sz s
  cases hl : s.data.toList with
  | nil => rw [hl] at h; simp at h
  | cons a l => rw [hl] at hz; simp at hz; omega

theorem both (neg : Bool) (s : ByteArray) (e : Int) (hs : s.size ≤ 1048576) (he : -1073741824 ≤ e ∧ e ≤ 1073741824) :
    ∃ T : ByteArray, (∀ w, Lib.TabIs Tryd.prog w Tryd.powName .u64 Lib.pow10Tab → Calls Tryd.prog 18 #[.agg #[.bool neg, .string s, .int .i64 e]] w fun x w' => x = .returned (.string T) ∧ Below w.heap.size w w') ∧
      (∀ w, Calls Tryd.prog 13 #[.bool neg, .string s, .int .i64 e] w fun x w' => x = .returned (.string T) ∧ Below w.heap.size w w') := by
  cases hne : s.toList.isEmpty with
  | true =>
    obtain rfl := empty_eq s hne
    exact ⟨_, fun w _ => float_none neg e w he, fun w => model_none neg e w⟩
  | false =>
    have h0 := pos_size s hne
    have hz := sz s
    by_cases hsci : 20 < e ∨ (s.size : Int) + e < -20
    · refine ⟨_, fun w ht => float_sci neg s e w hs hne h0 he hsci ht, fun w => ?_⟩
      rw [← mant_eq]
      exact model_sci neg s e w hs hne h0 he hsci
    · by_cases hint : 0 ≤ e
      · obtain ⟨k, rfl⟩ : ∃ k : Nat, e = (k : Int) := ⟨e.toNat, by omega⟩
        refine ⟨_, fun w _ => float_int neg s k w hs hne h0 (by omega), fun w => ?_⟩
        have hm := model_plain neg s (k : Int) ((s.size : Int) + k - 1) (-1) w hs hne h0 (by omega) (by omega) ⟨by omega, by omega⟩ ⟨by omega, by omega⟩
        rw [show ((s.size : Int) + k - 1 - -1 + 1).toNat = s.size + k + 1 from by omega, text_int s k h0] at hm
        have eT : sgnB neg ++ (⟨(s.data.toList ++ List.replicate k 48 ++ [46, 48]).toArray⟩ : ByteArray) = sgnB neg ++ s ++ ⟨(Lib.repeatL [48] k).toArray⟩ ++ ⟨#[46, 48]⟩ := by
          apply ba_ext
          rw [rep_eq]
          simp only [ba_append, List.append_assoc]
        rw [eT] at hm
        exact hm
      · by_cases hmid : 0 < (s.size : Int) + e
        · obtain ⟨p, hp⟩ : ∃ p : Nat, (s.size : Int) + e = (p : Int) := ⟨((s.size : Int) + e).toNat, by omega⟩
          refine ⟨_, fun w _ => float_mid neg s e w hs hne h0 he.1 (by omega) hmid, fun w => ?_⟩
          have hm := model_plain neg s e ((p : Int) - 1) e w hs hne h0 (by omega) (by omega) ⟨by omega, by omega⟩ ⟨by omega, by omega⟩
          rw [show ((p : Int) - 1 - e + 1).toNat = s.size from by omega, text_mid s e p (by omega) hp (by omega)] at hm
          have eT : sgnB neg ++ (⟨(s.data.toList.take p ++ 46 :: s.data.toList.drop p).toArray⟩ : ByteArray) = sgnB neg ++ s.extract 0 ((s.size : Int) + e).toNat ++ ⟨#[46]⟩ ++ s.extract ((s.size : Int) + e).toNat s.size := by
            apply ba_ext
            rw [hp, Int.toNat_natCast]
            simp only [ba_append, List.append_assoc, ByteArray.data_extract, Array.toList_extract, List.extract_eq_take_drop, List.drop_zero, Nat.sub_zero]
            congr 2
            rw [List.take_of_length_le (by rw [List.length_drop]; omega)]
            rfl
          rw [eT] at hm
          exact hm
        · obtain ⟨c, hc⟩ : ∃ c : Nat, -((s.size : Int) + e) = (c : Int) := ⟨(-((s.size : Int) + e)).toNat, by omega⟩
          obtain ⟨k, hk⟩ : ∃ k : Nat, e = -(k : Int) := ⟨(-e).toNat, by omega⟩
          refine ⟨_, fun w _ => float_low neg s e c w hs hne h0 he.1 (by omega) hc (by omega), fun w => ?_⟩
          have hm := model_plain neg s e 0 e w hs hne h0 (by omega) (by omega) ⟨by omega, by omega⟩ ⟨by omega, by omega⟩
          rw [show ((0 : Int) - e + 1).toNat = k + 1 from by omega, text_low s e c k hk hc h0] at hm
          have eT : sgnB neg ++ (⟨([48, 46] ++ List.replicate c 48 ++ s.data.toList).toArray⟩ : ByteArray) = sgnB neg ++ ⟨#[48, 46]⟩ ++ ⟨(Lib.repeatL [48] c).toArray⟩ ++ s := by
            apply ba_ext
            rw [rep_eq]
            simp only [ba_append, List.append_assoc]
          rw [eT] at hm
          exact hm

theorem law_big (neg : Bool) (s : ByteArray) (e : Int) (w : World) (hs : s.size ≤ maxLen) (hn : ¬ s.size ≤ 1048576) :
    Calls Tryd.prog 5 #[.bool neg, .string s, .int .i64 e] w fun x w' => x = .returned (.bool true) ∧ w = w' := by
  have hd : decide (s.size ≤ 1048576) = false := by simp [hn]
  go_enter Tryd.func5, Tryd.ntmps5
  go_wp2_with (go_at_call 11; refine (bytes_any _ _ _ _ hs).mono ?_; rintro x w' ⟨rfl, rfl⟩)
  go_ret
  exact ⟨rfl, rfl⟩

theorem law_far (neg : Bool) (s : ByteArray) (e : Int) (w : World) (hs : s.size ≤ maxLen) (hn : s.size ≤ 1048576) (he : 1073741824 < e ∨ e < -1073741824) :
    Calls Tryd.prog 5 #[.bool neg, .string s, .int .i64 e] w fun x w' => x = .returned (.bool true) ∧ w = w' := by
  have hd : decide (s.size ≤ 1048576) = true := by simp [hn]
  rcases he with he | he
  · go_enter Tryd.func5, Tryd.ntmps5
    go_wp2_with (go_at_call 11; refine (bytes_any _ _ _ _ hs).mono ?_; rintro x w' ⟨rfl, rfl⟩)
    go_ret
    exact ⟨rfl, rfl⟩
  · have he2 : ¬ 1073741824 < e := by omega
    go_enter Tryd.func5, Tryd.ntmps5
    go_wp2_with (go_at_call 11; refine (bytes_any _ _ _ _ hs).mono ?_; rintro x w' ⟨rfl, rfl⟩)
    go_ret
    exact ⟨rfl, rfl⟩

theorem law_near (neg : Bool) (s : ByteArray) (e : Int) (w : World) (hs : s.size ≤ maxLen) (hn : s.size ≤ 1048576) (he : -1073741824 ≤ e ∧ e ≤ 1073741824)
    (htab : Lib.TabIs Tryd.prog w Tryd.powName .u64 Lib.pow10Tab) :
    Calls Tryd.prog 5 #[.bool neg, .string s, .int .i64 e] w fun x w' => x = .returned (.bool true) ∧ Below w.heap.size w w' := by
  have hd : decide (s.size ≤ 1048576) = true := by simp [hn]
  obtain ⟨T, hF, hM⟩ := both neg s e hn he
  have HF := show Hid _ from hF
  have HM := show Hid _ from hM
  clear hF hM
  have hz : ∀ w, Lib.TabIs Tryd.prog w Tryd.powName .u64 Lib.pow10Tab → Calls Tryd.prog 12 #[.bool neg, .string s, .int .i64 e] w fun x w' => x = .returned (.string T) ∧ Below w.heap.size w w' := by
    intro w ht
    go_enter Tryd.func12, Tryd.ntmps12
    go_wp2_with fail
    refine Calls.mono (HF.out _ ht) ?_
    rintro x w' ⟨rfl, hb⟩
    go_wp2
    go_ret
    exact ⟨rfl, hb⟩
  have HZ := show Hid _ from hz
  clear hz HF
  have he2 : ¬ 1073741824 < e := by omega
  have he3 : ¬ e < -1073741824 := by omega
  go_enter Tryd.func5, Tryd.ntmps5
  go_wp2_with (first | (go_at_call 11; refine (bytes_any _ _ _ _ hs).mono ?_; rintro x w' ⟨rfl, rfl⟩) | fail)
  refine Calls.mono (HZ.out _ htab) ?_
  rintro x w1 ⟨rfl, hb1⟩
  go_wp2_with fail
  refine Calls.mono (HM.out _) ?_
  rintro x w2 ⟨rfl, hb2⟩
  go_wp2
  go_ret
  exact ⟨rfl, hb1.trans (hb2.mono hb1.size)⟩

theorem law_any (neg : Bool) (s : ByteArray) (e : Int) (w : World) (hs : s.size ≤ maxLen) (htab : Lib.TabIs Tryd.prog w Tryd.powName .u64 Lib.pow10Tab) :
    Calls Tryd.prog 5 #[.bool neg, .string s, .int .i64 e] w fun x w' => x = .returned (.bool true) ∧ Below w.heap.size w w' := by
  by_cases hn : s.size ≤ 1048576
  · by_cases he : 1073741824 < e ∨ e < -1073741824
    · refine (law_far neg s e w hs hn he).mono ?_
      rintro x w' ⟨rfl, rfl⟩
      exact ⟨rfl, Below.refl _ _⟩
    · exact law_near neg s e w hs hn (by omega) htab
  · refine (law_big neg s e w hs hn).mono ?_
    rintro x w' ⟨rfl, rfl⟩
    exact ⟨rfl, Below.refl _ _⟩
end Go.Proofs.Qxb6606095aDoor
