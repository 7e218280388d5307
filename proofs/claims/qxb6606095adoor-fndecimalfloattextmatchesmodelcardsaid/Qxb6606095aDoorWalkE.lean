/-
  THE WALK of zzDecB1ModelFloatText (13).
-/
import Derived.Test.Qxb6606095aDoorWalkC
import Derived.OwnWalk
import Derived.Deep.DeepCutAuto
namespace Go.Proofs.Qxb6606095aDoor
open Go.ChangeShapes Go.WideShapes Go.ChangeAt Go.RowKit Go.Sort
set_option linter.unusedVariables false

theorem zzItoa_any (x : Int) (w : World) (h : -10000000000 < x ∧ x < 10000000000) :
    Calls Tryd.prog 19 #[.int .i64 x] w fun e w' => e = .returned (.string ⟨(Lib.itoa x).toArray⟩) ∧ Below w.heap.size w w' := by
  by_cases h0 : x = 0
  · subst h0
    have e0 : (⟨(Lib.itoa 0).toArray⟩ : ByteArray) = ⟨#[48]⟩ := by
      rw [show (0 : Int) = ((0 : Nat) : Int) from rfl, Lib.itoa_nonneg, Lib.decDigits_one (by omega)]
      rfl
    rw [e0]
    go_enter Tryd.func19, Tryd.ntmps19
    go_wp2
    go_ret
    exact ⟨rfl, Below.refl _ _⟩
  · by_cases hp : 0 < x
    · obtain ⟨u, rfl⟩ : ∃ u : Nat, x = (u : Int) := ⟨x.toNat, by omega⟩
      rw [Lib.itoa_nonneg]
      exact zzItoa_pos u w (by omega) (by omega)
    · obtain ⟨u, rfl⟩ : ∃ u : Nat, x = -(u : Int) := ⟨x.natAbs, by omega⟩
      rw [Lib.itoa_neg u (by omega)]
      exact zzItoa_neg u w (by omega) (by omega)

set_option maxRecDepth 20000 in
set_option maxHeartbeats 800000 in
theorem model_none (neg : Bool) (e : Int) (w : World) :
    Calls Tryd.prog 13 #[.bool neg, .string ⟨#[]⟩, .int .i64 e] w fun x w' => x = .returned (.string ⟨#[48, 46, 48]⟩) ∧ Below w.heap.size w w' := by
  go_enter Tryd.func13, Tryd.ntmps13
  go_wp2
  go_ret
  exact ⟨rfl, Below.refl _ _⟩

/-- the mantissa as the model builds it -/
def mant' (s : ByteArray) : ByteArray := if 1 < s.size then s.extract 0 1 ++ ⟨#[46]⟩ ++ s.extract 1 s.size else s.extract 0 1

set_option maxRecDepth 20000 in
set_option maxHeartbeats 1600000 in
theorem model_sci (neg : Bool) (s : ByteArray) (e : Int) (w : World) (hs : s.size ≤ 1048576) (hne : s.toList.isEmpty = false) (h0 : 0 < s.size) (he : -1073741824 ≤ e ∧ e ≤ 1073741824)
    (hsci : 20 < e ∨ (s.size : Int) + e < -20) :
    Calls Tryd.prog 13 #[.bool neg, .string s, .int .i64 e] w fun x w' => x = .returned (.string (sgnB neg ++ mant' s ++ ⟨#[101]⟩ ++ ⟨(Lib.itoa ((s.size : Int) + e - 1)).toArray⟩)) ∧ Below w.heap.size w w' := by
  have hsg := sgnB_size neg
  have la := Lib.itoa_length_le ((s.size : Int) + e - 1) (by omega) (by omega)
  have hm1 : 1 < s.size → Hid (mant' s = s.extract 0 1 ++ ⟨#[46]⟩ ++ s.extract 1 s.size) := fun h => by show _ = _; unfold mant'; rw [if_pos h]
  have hm0 : ¬ 1 < s.size → Hid (mant' s = s.extract 0 1) := fun h => by show _ = _; unfold mant'; rw [if_neg h]
  have hisz : (⟨(Lib.itoa ((s.size : Int) + e - 1)).toArray⟩ : ByteArray).size ≤ 21 := by rw [mk_size]; exact la
  obtain ⟨I, hI⟩ : ∃ I : ByteArray, I = ⟨(Lib.itoa ((s.size : Int) + e - 1)).toArray⟩ := ⟨_, rfl⟩
  rw [← hI] at hisz ⊢
  have HI := Lib.hid hI
  clear hI
  go_enter Tryd.func13, Tryd.ntmps13
  go_upto_if 18 with fail
  go_cut [7] (fun a wx => w = wx ∧ a = .string (sgnB neg))
  case first =>
    cases neg with
    | true =>
      go_wp2_with fail
      go_meet
      exact ⟨rfl, rfl⟩
    | false =>
      go_wp2_with fail
      go_meet
      exact ⟨rfl, rfl⟩
  case rest =>
    obtain ⟨hw, rfl⟩ := hcut
    subst hw
    have hpd : (0 < e ∧ 20 < e ∧ ¬ (s.size : Int) + e < 0) ∨ (¬ 0 < e ∧ (s.size : Int) + e < 0 ∧ 20 < -((s.size : Int) + e)) := by omega
    by_cases h1 : 1 < s.size
    · have HM := hm1 h1
      clear hm1 hm0
      rcases hpd with ⟨q1, q2, q3⟩ | ⟨q1, q2, q3⟩
      all_goals
        go_wp2_with fail
        refine (zzItoa_any _ _ (by omega)).mono ?_
        rintro x w1 ⟨rfl, hb⟩
        rw [← HI.out]
        go_wp2
        go_ret
        exact ⟨ret_str (by rw [HM.out]), hb⟩
    · have HM := hm0 h1
      clear hm1 hm0
      rcases hpd with ⟨q1, q2, q3⟩ | ⟨q1, q2, q3⟩
      all_goals
        go_wp2_with fail
        refine (zzItoa_any _ _ (by omega)).mono ?_
        rintro x w1 ⟨rfl, hb⟩
        rw [← HI.out]
        go_wp2
        go_ret
        exact ⟨ret_str (by rw [HM.out]), hb⟩
end Go.Proofs.Qxb6606095aDoor
