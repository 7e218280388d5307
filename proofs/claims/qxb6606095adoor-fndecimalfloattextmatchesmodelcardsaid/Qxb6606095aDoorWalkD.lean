/-
  THE WALK of FloatText (18), its two ways with a fraction.
-/
import Derived.Test.Qxb6606095aDoorWalkC
namespace Go.Proofs.Qxb6606095aDoor
open Go.ChangeShapes Go.WideShapes Go.ChangeAt Go.RowKit Go.Sort
set_option linter.unusedVariables false

theorem wrap_small (c : Nat) (h : c ≤ 20) : IntKind.i64.wrap (c : Int) = (c : Int) := by
  rw [IntKind.wrap_i64]; omega

set_option maxRecDepth 20000 in
set_option maxHeartbeats 1600000 in
theorem float_mid (neg : Bool) (s : ByteArray) (e : Int) (w : World) (hs : s.size ≤ 1048576) (hne : s.toList.isEmpty = false) (h0 : 0 < s.size) (he : -1073741824 ≤ e) (he0 : e < 0) (hp : 0 < (s.size : Int) + e) :
    Calls Tryd.prog 18 #[.agg #[.bool neg, .string s, .int .i64 e]] w fun x w' => x = .returned (.string (sgnB neg ++ s.extract 0 ((s.size : Int) + e).toNat ++ ⟨#[46]⟩ ++ s.extract ((s.size : Int) + e).toNat s.size)) ∧ Below w.heap.size w w' := by
  have hsg := sgnB_size neg
  obtain ⟨W, hW⟩ : ∃ W, W = w.alloc (.cells #[.bool neg, .string s, .int .i64 e] 28) := ⟨_, rfl⟩
  have hb1 : Below w.heap.size w W := by rw [hW]; exact (Below.refl _ _).alloc (Nat.le_refl _) _
  have hsz : w.heap.size ≤ W.heap.size := hb1.size
  have k0 := cell_regrown (w := W) (a := ⟨w.heap.size, 0, none⟩) (v := .bool neg) (by rw [hW, World.cell?_alloc_at _ _ _ _ rfl]; rfl)
  have k1 := cell_regrown (w := W) (a := ⟨w.heap.size, 1, none⟩) (v := .string s) (by rw [hW, World.cell?_alloc_at _ _ _ _ rfl]; rfl)
  have k2 := cell_regrown (w := W) (a := ⟨w.heap.size, 2, none⟩) (v := .int .i64 e) (by rw [hW, World.cell?_alloc_at _ _ _ _ rfl]; rfl)
  have cS : ∀ d os, Calls Tryd.prog 27 #[.agg #[.bool neg, .string s, .int .i64 e]] (grow (redrawn W d) os) fun x w'' => x = .returned (.string (sgnB neg)) ∧ ∃ p : Regrown, w'' = grow (redrawn W p.d) p.os :=
    fun d os => Calls.regrown_of ((sign_any neg s e _).mono fun x w' ⟨h1, h2⟩ => ⟨h1, by rw [h2]; exact (Below.refl _ _).alloc (Nat.le_refl _) _⟩)
  have n1 : ¬ 9223372036854775807 < (sgnB neg).size + ((s.size : Int) + e).toNat := by omega
  have n2 : ¬ 9223372036854775807 < (sgnB neg).size + ((s.size : Int) + e).toNat + 1 := by omega
  have n3 : ¬ 9223372036854775807 < (sgnB neg).size + ((s.size : Int) + e).toNat + 1 + (s.size - ((s.size : Int) + e).toNat) := by omega
  have hpn : 0 ≤ (s.size : Int) + e := by omega
  have hpm : (s.size : Int) + e ≤ (s.size : Int) := by omega
  have hm := mixed
  have HW := Lib.hid hW
  clear hW
  go_enter Tryd.func18, Tryd.ntmps18
  go_wp2
  rw [← HW.out]
  refine wp_region_quiet_below (by assumption) (by kernel_rfl) ?_
  repeat (quiet_step (first | exact cS _ _ | fail))
  refine wpQuiet_nil ?_
  intro _ hw'
  obtain ⟨⟨dq, osq⟩, hw''⟩ := hw'
  subst hw''
  go_wp2
  go_ret
  exact ⟨rfl, hb1.trans ((below_regrown W dq osq).mono hsz)⟩

set_option maxRecDepth 20000 in
set_option maxHeartbeats 1600000 in
theorem float_low (neg : Bool) (s : ByteArray) (e : Int) (c : Nat) (w : World) (hs : s.size ≤ 1048576) (hne : s.toList.isEmpty = false) (h0 : 0 < s.size) (he : -1073741824 ≤ e) (he0 : e < 0) (hc : -((s.size : Int) + e) = (c : Int)) (hc20 : c ≤ 20) :
    Calls Tryd.prog 18 #[.agg #[.bool neg, .string s, .int .i64 e]] w fun x w' => x = .returned (.string (sgnB neg ++ ⟨#[48, 46]⟩ ++ ⟨(Lib.repeatL [48] c).toArray⟩ ++ s)) ∧ Below w.heap.size w w' := by
  have hsg := sgnB_size neg
  obtain ⟨W, hW⟩ : ∃ W, W = w.alloc (.cells #[.bool neg, .string s, .int .i64 e] 28) := ⟨_, rfl⟩
  have hb1 : Below w.heap.size w W := by rw [hW]; exact (Below.refl _ _).alloc (Nat.le_refl _) _
  have hsz : w.heap.size ≤ W.heap.size := hb1.size
  have k0 := cell_regrown (w := W) (a := ⟨w.heap.size, 0, none⟩) (v := .bool neg) (by rw [hW, World.cell?_alloc_at _ _ _ _ rfl]; rfl)
  have k1 := cell_regrown (w := W) (a := ⟨w.heap.size, 1, none⟩) (v := .string s) (by rw [hW, World.cell?_alloc_at _ _ _ _ rfl]; rfl)
  have k2 := cell_regrown (w := W) (a := ⟨w.heap.size, 2, none⟩) (v := .int .i64 e) (by rw [hW, World.cell?_alloc_at _ _ _ _ rfl]; rfl)
  have hRs := rep_size c
  have cS : ∀ d os, Calls Tryd.prog 27 #[.agg #[.bool neg, .string s, .int .i64 e]] (grow (redrawn W d) os) fun x w'' => x = .returned (.string (sgnB neg)) ∧ ∃ p : Regrown, w'' = grow (redrawn W p.d) p.os :=
    fun d os => Calls.regrown_of ((sign_any neg s e _).mono fun x w' ⟨h1, h2⟩ => ⟨h1, by rw [h2]; exact (Below.refl _ _).alloc (Nat.le_refl _) _⟩)
  have cR : ∀ d os, Calls Tryd.prog 29 #[.string ⟨#[48]⟩, .int .i64 (IntKind.i64.wrap (-((s.size : Int) + e)))] (grow (redrawn W d) os) fun x w'' => x = .returned (.string ⟨(Lib.repeatL [48] c).toArray⟩) ∧ ∃ p : Regrown, w'' = grow (redrawn W p.d) p.os :=
    fun d os => by rw [hc, wrap_small c hc20]; exact Calls.regrown_of (Tryd.strings_Repeat ⟨#[48]⟩ c _ (by omega) (by show 1 * c ≤ _; omega))
  obtain ⟨R, hR⟩ : ∃ R : ByteArray, R = ⟨(Lib.repeatL [48] c).toArray⟩ := ⟨_, rfl⟩
  rw [← hR] at cR hRs ⊢
  have hRs2 : R.size ≤ 20 := by omega
  have hp0 : (s.size : Int) + e ≤ 0 := by omega
  have hp20 : -20 ≤ (s.size : Int) + e := by omega
  clear hR hRs hc
  have n1 : ¬ 9223372036854775807 < (sgnB neg).size + 2 := by omega
  have n2 : ¬ 9223372036854775807 < (sgnB neg).size + 2 + R.size := by omega
  have n3 : ¬ 9223372036854775807 < (sgnB neg).size + 2 + R.size + s.size := by omega
  have hm := mixed
  have HW := Lib.hid hW
  clear hW
  go_enter Tryd.func18, Tryd.ntmps18
  go_wp2
  rw [← HW.out]
  refine wp_region_quiet_below (by assumption) (by kernel_rfl) ?_
  repeat (quiet_step (first | exact cS _ _ | exact cR _ _))
  refine wpQuiet_nil ?_
  intro _ hw'
  obtain ⟨⟨dq, osq⟩, hw''⟩ := hw'
  subst hw''
  go_wp2
  go_ret
  exact ⟨rfl, hb1.trans ((below_regrown W dq osq).mono hsz)⟩
end Go.Proofs.Qxb6606095aDoor
