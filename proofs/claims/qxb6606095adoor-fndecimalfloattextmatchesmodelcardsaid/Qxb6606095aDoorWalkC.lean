/-
  THE WALK of FloatText (18).
-/
import Derived.Test.Qxb6606095aDoorWalkB
import Derived.Test.Qxb6606095aDoorShelf
import Derived.Lib.AppendIntMem
import Derived.Lib.ItoaLen
import Derived.Lib.Hide
import Derived.Lib.QuietBelow
import Derived.BigQuiet
namespace Go.Proofs.Qxb6606095aDoor
open Go.ChangeShapes Go.WideShapes Go.ChangeAt Go.RowKit Go.Sort
set_option linter.unusedVariables false

theorem mk_size (l : List UInt8) : (⟨l.toArray⟩ : ByteArray).size = l.length := by simp [ByteArray.size]
theorem mixed : Tryd.prog.follows .mixedOrders = true := by kernel_rfl

set_option maxRecDepth 20000 in
set_option maxHeartbeats 800000 in
theorem float_none (neg : Bool) (e : Int) (w : World) (he : -1073741824 ≤ e ∧ e ≤ 1073741824) :
    Calls Tryd.prog 18 #[.agg #[.bool neg, .string ⟨#[]⟩, .int .i64 e]] w fun x w' => x = .returned (.string ⟨#[48, 46, 48]⟩) ∧ Below w.heap.size w w' := by
  go_enter Tryd.func18, Tryd.ntmps18
  go_wp2
  go_ret
  exact ⟨rfl, (Below.refl _ _).alloc (Nat.le_refl _) _⟩

/-- the mantissa -/
def mant (s : ByteArray) : ByteArray := if 1 < s.size then s.extract 0 1 ++ (⟨#[46]⟩ ++ s.extract 1 s.size) else s.extract 0 1

set_option maxRecDepth 20000 in
set_option maxHeartbeats 1600000 in
theorem float_sci (neg : Bool) (s : ByteArray) (e : Int) (w : World) (hs : s.size ≤ 1048576) (hne : s.toList.isEmpty = false) (h0 : 0 < s.size) (he : -1073741824 ≤ e ∧ e ≤ 1073741824)
    (hsci : 20 < e ∨ (s.size : Int) + e < -20) (htab : Lib.TabIs Tryd.prog w Tryd.powName .u64 Lib.pow10Tab) :
    Calls Tryd.prog 18 #[.agg #[.bool neg, .string s, .int .i64 e]] w fun x w' => x = .returned (.string (sgnB neg ++ mant s ++ ⟨#[101]⟩ ++ ⟨(Lib.itoa ((s.size : Int) + e - 1)).toArray⟩)) ∧ Below w.heap.size w w' := by
  have hsg := sgnB_size neg
  have hT := Lib.tabBelow_of_tabIs htab
  have la := Lib.itoa_length_le ((s.size : Int) + e - 1) (by omega) (by omega)
  have hb1 : Below w.heap.size w (w.alloc (.cells #[.bool neg, .string s, .int .i64 e] 28)) := (Below.refl _ _).alloc (Nat.le_refl _) _
  have hb2 : Below w.heap.size w ((w.alloc (.cells #[.bool neg, .string s, .int .i64 e] 28)).alloc (.cells #[.bool neg, .string s, .int .i64 e] 28)) := hb1.alloc (by simp) _
  have htab2 := hT _ hb2
  have hm1 : 1 < s.size → Hid (mant s = s.extract 0 1 ++ (⟨#[46]⟩ ++ s.extract 1 s.size)) := fun h => by show _ = _; unfold mant; rw [if_pos h]
  have hm0 : ¬ 1 < s.size → Hid (mant s = s.extract 0 1) := fun h => by show _ = _; unfold mant; rw [if_neg h]
  have hisz : (⟨(Lib.itoa ((s.size : Int) + e - 1)).toArray⟩ : ByteArray).size ≤ 21 := by rw [mk_size]; exact la
  obtain ⟨I, hI⟩ : ∃ I : ByteArray, I = ⟨(Lib.itoa ((s.size : Int) + e - 1)).toArray⟩ := ⟨_, rfl⟩
  rw [← hI] at hisz ⊢
  have HI := Lib.hid hI
  clear hI htab hT
  by_cases h1 : 1 < s.size
  · have HM := hm1 h1
    clear hm1 hm0
    by_cases h20 : 20 < e
    · go_enter Tryd.func18, Tryd.ntmps18
      go_wp2_with fail
      refine (sign_any neg s e _).mono ?_
      rintro x w1 ⟨rfl, rfl⟩
      go_wp2_with fail
      refine (Tryd.strconv_Itoa _ (by omega) (by omega) _ htab2).mono ?_
      rintro x w2 ⟨rfl, k, os, rfl⟩
      rw [← HI.out]
      go_wp2
      go_ret
      exact ⟨ret_str (by rw [HM.out]), hb2.trans (Lib.below_grow _ _ hb2.size _ _)⟩
    · have hp : (s.size : Int) + e < -20 := by omega
      go_enter Tryd.func18, Tryd.ntmps18
      go_wp2_with fail
      refine (sign_any neg s e _).mono ?_
      rintro x w1 ⟨rfl, rfl⟩
      go_wp2_with fail
      refine (Tryd.strconv_Itoa _ (by omega) (by omega) _ htab2).mono ?_
      rintro x w2 ⟨rfl, k, os, rfl⟩
      rw [← HI.out]
      go_wp2
      go_ret
      exact ⟨ret_str (by rw [HM.out]), hb2.trans (Lib.below_grow _ _ hb2.size _ _)⟩
  · have HM := hm0 h1
    clear hm1 hm0
    by_cases h20 : 20 < e
    · go_enter Tryd.func18, Tryd.ntmps18
      go_wp2_with fail
      refine (sign_any neg s e _).mono ?_
      rintro x w1 ⟨rfl, rfl⟩
      go_wp2_with fail
      refine (Tryd.strconv_Itoa _ (by omega) (by omega) _ htab2).mono ?_
      rintro x w2 ⟨rfl, k, os, rfl⟩
      rw [← HI.out]
      go_wp2
      go_ret
      exact ⟨ret_str (by rw [HM.out]), hb2.trans (Lib.below_grow _ _ hb2.size _ _)⟩
    · have hp : (s.size : Int) + e < -20 := by omega
      go_enter Tryd.func18, Tryd.ntmps18
      go_wp2_with fail
      refine (sign_any neg s e _).mono ?_
      rintro x w1 ⟨rfl, rfl⟩
      go_wp2_with fail
      refine (Tryd.strconv_Itoa _ (by omega) (by omega) _ htab2).mono ?_
      rintro x w2 ⟨rfl, k, os, rfl⟩
      rw [← HI.out]
      go_wp2
      go_ret
      exact ⟨ret_str (by rw [HM.out]), hb2.trans (Lib.below_grow _ _ hb2.size _ _)⟩

theorem rep_size (e : Nat) : (⟨(Lib.repeatL [48] e).toArray⟩ : ByteArray).size = e := by
  rw [mk_size]
  induction e with
  | zero => rfl
  | succ e ih => simp [Lib.repeatL] at ih ⊢; omega

set_option maxRecDepth 20000 in
set_option maxHeartbeats 1600000 in
theorem float_int (neg : Bool) (s : ByteArray) (e : Nat) (w : World) (hs : s.size ≤ 1048576) (hne : s.toList.isEmpty = false) (h0 : 0 < s.size) (he : e ≤ 20) :
    Calls Tryd.prog 18 #[.agg #[.bool neg, .string s, .int .i64 (e : Int)]] w fun x w' => x = .returned (.string (sgnB neg ++ s ++ ⟨(Lib.repeatL [48] e).toArray⟩ ++ ⟨#[46, 48]⟩)) ∧ Below w.heap.size w w' := by
  have hsg := sgnB_size neg
  obtain ⟨W, hW⟩ : ∃ W, W = w.alloc (.cells #[.bool neg, .string s, .int .i64 (e : Int)] 28) := ⟨_, rfl⟩
  have hb1 : Below w.heap.size w W := by rw [hW]; exact (Below.refl _ _).alloc (Nat.le_refl _) _
  have hsz : w.heap.size ≤ W.heap.size := hb1.size
  have k0 := cell_regrown (w := W) (a := ⟨w.heap.size, 0, none⟩) (v := .bool neg) (by rw [hW, World.cell?_alloc_at _ _ _ _ rfl]; rfl)
  have k1 := cell_regrown (w := W) (a := ⟨w.heap.size, 1, none⟩) (v := .string s) (by rw [hW, World.cell?_alloc_at _ _ _ _ rfl]; rfl)
  have k2 := cell_regrown (w := W) (a := ⟨w.heap.size, 2, none⟩) (v := .int .i64 (e : Int)) (by rw [hW, World.cell?_alloc_at _ _ _ _ rfl]; rfl)
  have hRs := rep_size e
  have cS : ∀ d os, Calls Tryd.prog 27 #[.agg #[.bool neg, .string s, .int .i64 (e : Int)]] (grow (redrawn W d) os) fun x w'' => x = .returned (.string (sgnB neg)) ∧ ∃ p : Regrown, w'' = grow (redrawn W p.d) p.os :=
    fun d os => Calls.regrown_of ((sign_any neg s e _).mono fun x w' ⟨h1, h2⟩ => ⟨h1, by rw [h2]; exact (Below.refl _ _).alloc (Nat.le_refl _) _⟩)
  have cR : ∀ d os, Calls Tryd.prog 29 #[.string ⟨#[48]⟩, .int .i64 (e : Int)] (grow (redrawn W d) os) fun x w'' => x = .returned (.string ⟨(Lib.repeatL [48] e).toArray⟩) ∧ ∃ p : Regrown, w'' = grow (redrawn W p.d) p.os :=
    fun d os => Calls.regrown_of (Tryd.strings_Repeat ⟨#[48]⟩ e _ (by omega) (by show 1 * e ≤ _; omega))
  obtain ⟨R, hR⟩ : ∃ R : ByteArray, R = ⟨(Lib.repeatL [48] e).toArray⟩ := ⟨_, rfl⟩
  rw [← hR] at cR hRs ⊢
  have hRs2 : R.size ≤ 20 := by omega
  clear hR hRs
  have n1 : ¬ 9223372036854775807 < (sgnB neg).size + s.size := by omega
  have n2 : ¬ 9223372036854775807 < (sgnB neg).size + s.size + R.size := by omega
  have n3 : ¬ 9223372036854775807 < (sgnB neg).size + s.size + R.size + 2 := by omega
  have hm := mixed
  have HW := Lib.hid hW
  clear hW
  go_enter Tryd.func18, Tryd.ntmps18
  go_wp2
  rw [← HW.out]
  refine wp_region_quiet_below (by assumption) (by kernel_rfl) ?_
  repeat (quiet_step (first | exact cS _ _ | exact cR _ _))
  refine wpQuiet_nil ?_
  intro _ hw'
  obtain ⟨⟨dq, osq⟩, hw''⟩ := hw'
  subst hw''
  go_wp2
  go_ret
  exact ⟨rfl, hb1.trans ((below_regrown W dq osq).mono hsz)⟩
end Go.Proofs.Qxb6606095aDoor
