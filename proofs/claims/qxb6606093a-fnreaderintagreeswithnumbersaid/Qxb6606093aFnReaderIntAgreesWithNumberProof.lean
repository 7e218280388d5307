/-
  The proof of the law FnReaderIntAgreesWithNumber, off the given shell.
-/
import Derived.Test.Qxb6606093aRows
import Derived.WalkKit
import Derived.ProofKit
import Derived.OpenShut
import Derived.ShutString
import Derived.ChangeOld
import Derived.Below
import Derived.Test.Qxb6606093aPlainD
import Derived.Test.Qxb6606093aWalkC
import Derived.Test.Qxb6606093aWalkH
namespace Go.Proofs.Qxb6606093a.fnReaderIntAgreesWithNumber
open Go.ChangeShapes Go.WideShapes Go.ChangeAt Go.RowKit
open Go.ChangeMaps (open_string shut_string)
set_option linter.unusedVariables false

theorem own : ownKnob Try.prog.godebug = none := by kernel_rfl
theorem laidOut : laidOutB Try.prog = true := by kernel_rfl

/-- WHAT THE WALK IS TOLD OF A SLICE OF INTEGERS THAT CAME IN: it is nil; or it leads to a row of 'cap' cells, the numbers 'zs' (the first 'len' are its elements, the rest its spare room), each fitting its kind. -/
def IsRow (k : IntKind) (w : World) (a : Option Addr) (len cap : Nat) (zs : List Int) : Prop :=
  (a = none ∧ len = 0 ∧ cap = 0 ∧ zs = []) ∨
  ∃ x, a = some x ∧ len ≤ cap ∧ cap ≤ maxLen ∧ zs.length = cap ∧ (∀ i, i < zs.length → w.cell? (x.add i) = some (.int k (zs.getD i 0))) ∧ ∀ n ∈ zs, (Lit.int k n).wf = true

/-! ### STEP 1: THE WALK -/
open Num

theorem walk_big (a : Option Addr) (n cap : Nat) (w : World) (hm : n ≤ maxLen) (h : ¬ n ≤ 1048576) :
    Calls Try.prog 6 #[.slice a n cap] w fun e w' => e = .returned (.bool true) ∧ w = w' := by
  have hd : decide (n ≤ 1048576) = false := by simp [h]
  go_enter Try.func6, Try.ntmps6
  go_wp2_with (go_at_call 18; refine (bytes18_any _ _ _ _ hm).mono ?_; rintro e w' ⟨rfl, rfl⟩)
  go_ret
  exact ⟨rfl, rfl⟩

theorem walk_none (a : Option Addr) (cap : Nat) (w : World) :
    Calls Try.prog 6 #[.slice a 0 cap] w fun e w' => e = .returned (.bool true) ∧ w = w' := by
  go_enter Try.func6, Try.ntmps6
  go_wp2_with (go_at_call 18; refine (bytes18_any _ _ _ _ (Nat.zero_le _)).mono ?_; rintro e w' ⟨rfl, rfl⟩)
  go_ret
  exact ⟨rfl, rfl⟩

set_option maxRecDepth 20000 in
set_option maxHeartbeats 1600000 in
theorem walk_in (b : Nat → Int) (bl off n cap : Nat) (w : World) (hm : n ≤ maxLen) (hn : n ≤ 1048576) (h0 : 0 < n)
    (hc : ∀ k, k < n → w.cell? ⟨bl, off + k, none⟩ = some (.int .u8 (b k))) :
    Calls Try.prog 6 #[.slice (some ⟨bl, off, none⟩) n cap] w fun e w' => e = .returned (.bool true) ∧ Below w.heap.size w w' := by
  have hd : decide (n ≤ 1048576) = true := by simp [hn]
  have hnz : ((n : Int) == 0) = false := by simp; omega
  have hrange := num_range b n 0 h0
  go_enter Try.func6, Try.ntmps6
  go_wp2_with (first | (go_at_call 18; refine (bytes18_any _ _ _ _ hm).mono ?_; rintro e w' ⟨rfl, rfl⟩) | fail)
  refine (clone_any b bl off n cap _ hn h0 hc).mono ?_
  rintro e w1 ⟨rfl, hmade⟩
  have hb1 := hmade.1
  have hc1 : ∀ k, k < n → w1.cell? ⟨w.heap.size, 0 + k, none⟩ = some (.int .u8 (b k)) := fun k hk => by rw [Nat.zero_add]; exact hmade.cell k hk
  have hsz1 : w.heap.size < w1.heap.size := by have := hmade.2.1; omega
  clear hmade hc
  go_wp2_with fail
  refine (zzNum_any b w.heap.size 0 n n 0 _ _ rfl hn h0 hc1).mono ?_
  rintro e w1' ⟨rfl, hw⟩
  subst hw
  obtain ⟨J, hJ⟩ : ∃ J, J = num b n 0 := ⟨_, rfl⟩
  rw [← hJ] at hrange ⊢
  have HJ := show Hid _ from hJ
  clear hJ
  go_wp2_with fail
  refine (clone_any b w.heap.size 0 n n _ hn h0 hc1).mono ?_
  rintro e w2 ⟨rfl, hmade⟩
  have hb2 : Below w.heap.size w w2 := hb1.trans (hmade.1.mono (by omega))
  have hc2 : ∀ k, k < n → w2.cell? ⟨w1.heap.size, 0 + k, none⟩ = some (.int .u8 (b k)) := fun k hk => by rw [Nat.zero_add]; exact hmade.cell k hk
  have hc3 : ∀ k, k < n → w2.cell? ⟨w.heap.size, 0 + k, none⟩ = some (.int .u8 (b k)) := fun k hk => (hmade.1.cell (p := ⟨w.heap.size, 0 + k, none⟩) hsz1).trans (hc1 k hk)
  have hsz2 : w1.heap.size < w2.heap.size := by have := hmade.2.1; omega
  clear hmade hc1 hb1
  -- the world in which Int is called
  obtain ⟨W, hW⟩ : ∃ W, W = (w2.alloc (.cells #[.slice (some ⟨w1.heap.size, 0, none⟩) n n] 41)).alloc (.cells #[.int .i64 0] 2) := ⟨_, rfl⟩
  have hbW : Below w.heap.size w W := by rw [hW]; exact (hb2.alloc (by omega) _).alloc (by simp; omega) _
  have hbW3 : Below w2.heap.size w2 W := by rw [hW]; exact ((Below.refl _ _).alloc (Nat.le_refl _) _).alloc (by simp) _
  have hr : W.cell? ⟨w2.heap.size, 0, none⟩ = some (.slice (some ⟨w1.heap.size, 0, none⟩) n n) := by rw [hW, World.cell?_alloc_past _ _ _ (by simp), World.cell?_alloc_at _ _ _ _ rfl]; rfl
  have hrf : W.frozen? ⟨w2.heap.size, 0, none⟩ = false := by rw [hW, World.frozen?_alloc_past _ _ _ (by simp), World.frozen?_alloc_at _ _ _ _ rfl]
  have hx : W.cell? ⟨w2.heap.size + 1, 0, none⟩ = some (.int .i64 0) := by rw [hW, World.cell?_alloc_at _ _ _ _ (by simp)]; rfl
  have hxf : W.frozen? ⟨w2.heap.size + 1, 0, none⟩ = false := by rw [hW, World.frozen?_alloc_at _ _ _ _ (by simp)]
  have hcR : ∀ k, k < n → W.cell? ⟨w1.heap.size, 0 + k, none⟩ = some (.int .u8 (b k)) := fun k hk => (hbW3.cell (p := ⟨w1.heap.size, 0 + k, none⟩) hsz2).trans (hc2 k hk)
  have hcW : ∀ k, k < n → W.cell? ⟨w.heap.size, k, none⟩ = some (.int .u8 (b k)) := fun k hk => by
    have := (hbW3.cell (p := ⟨w.heap.size, 0 + k, none⟩) (by show w.heap.size < w2.heap.size; omega)).trans (hc3 k hk)
    rwa [Nat.zero_add] at this
  have HW := show Hid _ from hW
  clear hW hc2 hc3
  have hkn : dEnd b n 0 ≤ n := (dEnd_le b n 0 (Nat.zero_le _)).2
  go_wp2_with fail
  refine (newReader_any _ _ _ _ _ rfl).mono ?_
  rintro e w4 ⟨rfl, rfl⟩
  go_wp2_with fail
  rw [← HW.out]
  refine (int_any b w2.heap.size (w2.heap.size + 1) w1.heap.size 0 n 0 W hn h0 hcR hr hrf hx hxf (by omega)).mono ?_
  rintro e w5 (⟨hna, rfl, rfl⟩ | ⟨hya, rfl, hdone⟩)
  · -- refused
    clear HW
    go_wp2_with fail
    refine (readerData_any _ _ _ _ _ hr).mono ?_
    rintro e w6 ⟨rfl, rfl⟩
    clear hr hrf hx hxf hcR hbW3
    by_cases h1 : J < 1
    · go_wp2
      go_ret
      exact ⟨rfl, hbW⟩
    · by_cases h18 : 18 < J
      · go_wp2
        go_ret
        exact ⟨rfl, hbW⟩
      · obtain ⟨j, hj⟩ : ∃ j : Nat, J = (j : Int) := ⟨J.toNat, by omega⟩
        subst hj
        have hjn : j ≤ n := by omega
        have HREF : Hid (Digs b j → j < n ∧ 48 ≤ b j ∧ b j ≤ 57) := ref_num b n j h0 hna HJ.out.symm (by omega) (by omega)
        clear HJ hrange
        go_wp2
        go_loop [9] (fun i => ∃ p : Nat, p ≤ j ∧ i = .int .i64 p ∧ Hid (Digs b p)) (fun i => n - (intOf i).toNat)
        case atStart => exact ⟨0, Nat.zero_le _, rfl, fun t ht => absurd ht (Nat.not_lt_zero _)⟩
        case round =>
          obtain ⟨p, hp, rfl, HP⟩ := hrel
          by_cases hlt : p < j
          · have hcp := hcW p (by omega)
            have hpn : p < n := by omega
            by_cases hdg : 48 ≤ b p ∧ b p ≤ 57
            · have hdb := digB_yes hdg.1 hdg.2
              have HDG : Hid (48 ≤ b p ∧ b p ≤ 57) := hdg
              clear hdg
              go_wp2_with (go_at_call 19; refine (isDigit_any _ _).mono ?_; rintro e w' ⟨rfl, rfl⟩)
              go_round
              case rel =>
                refine ⟨p + 1, by omega, by go_num, fun t ht => ?_⟩
                by_cases e : t = p
                · subst e; exact HDG.out
                · exact HP.out t (by omega)
              case measure => simp [intOf]; omega
            · have hdb := digB_no hdg
              clear hdg
              go_wp2_with (go_at_call 19; refine (isDigit_any _ _).mono ?_; rintro e w' ⟨rfl, rfl⟩)
              go_ret
              exact ⟨rfl, hbW⟩
          · obtain rfl : p = j := by omega
            have hlast := HREF.out HP.out
            have hpn : p < n := hlast.1
            have hcp := hcW p hpn
            have hdb := digB_yes hlast.2.1 hlast.2.2
            clear hlast
            go_wp2_with (go_at_call 19; refine (isDigit_any _ _).mono ?_; rintro e w' ⟨rfl, rfl⟩)
            go_ret
            exact ⟨rfl, hbW⟩
  · -- accepted
    have hnum := acc_num b n h0 hya
    obtain ⟨k, hk⟩ : ∃ k, k = dEnd b n 0 := ⟨_, rfl⟩
    rw [← hk] at hdone hnum hkn
    have hJk : J = (k : Int) := HJ.out.trans hnum
    subst hJk
    obtain ⟨a, c, hr5, hx5, ha5, hB5⟩ := hdone.facts (by omega) hr hx
    have hb5 := hB5 w2.heap.size (Nat.le_refl _) (by omega)
    have hbw5 : Below w.heap.size w w5 := hbW.trans (hb5.mono (by omega))
    clear HJ hk hnum hrange HW hdone hB5 hb5 hr hx hrf hxf hcW hcR hbW3
    have hsub : ((n - k : Nat) : Int) = (n : Int) - (k : Int) := by omega
    have hq : ((k : Int) == (n : Int) - ((n : Int) - (k : Int))) = true := by simp; omega
    go_wp2_with fail
    refine (readerData_any _ _ _ _ _ hr5).mono ?_
    rintro e w6 ⟨rfl, rfl⟩
    go_wp2
    go_ret
    exact ⟨rfl, hbw5⟩

theorem walk (a0 : Option Addr) (len0 cap0 : Nat) (z0 : List Int) (w : World) (w0 : IsRow .u8 w a0 len0 cap0 z0) :
    Calls Try.prog 6 #[.slice a0 len0 cap0] w fun e w' => e = .returned (.bool true) ∧ Below w.heap.size w w' := by
  have hm : len0 ≤ maxLen := by
    rcases w0 with ⟨_, h, _, _⟩ | ⟨x, _, h1, h2, _⟩
    · rw [h]; exact Nat.zero_le _
    · omega
  by_cases hn : len0 ≤ 1048576
  · by_cases hz : len0 = 0
    · subst hz
      refine (walk_none a0 cap0 w).mono ?_
      rintro e w' ⟨rfl, rfl⟩
      exact ⟨rfl, Below.refl _ _⟩
    · rcases w0 with ⟨_, h, _, _⟩ | ⟨x, rfl, hl, hcap, hzl, hcell, hwz⟩
      · omega
      · obtain ⟨bl, off, spot⟩ := x
        have hspot : spot = none := by simpa [Addr.add] using World.cell?_spot (hcell 0 (by omega))
        subst hspot
        refine walk_in (fun k => z0.getD k 0) bl off len0 cap0 w hm hn (by omega) ?_
        intro k hk
        have := hcell k (by omega)
        rw [add_plain] at this
        exact this
  · refine (walk_big a0 len0 cap0 w hm hn).mono ?_
    rintro e w' ⟨rfl, rfl⟩
    exact ⟨rfl, Below.refl _ _⟩

/-! ### THE ROW's STEP: WRITTEN OUT: LEAVE IT -/
set_option maxRecDepth 100000 in
theorem lifted (os : Os) (started : os.Started) (H : Type) (enc : TypeId × Value → H) :
    ReturnsInHanded {} Try.checked os 6 .any (Rows.fnReaderIntAgreesWithNumberSpec.pre6 enc Try.prog Try.f6 Rows.fnReaderIntAgreesWithNumberRow.domain false) (Rows.fnReaderIntAgreesWithNumberSpec.post enc Try.prog Try.f6 false true false false) := by
  refine returnsInHanded_of_change (C := Try.checked) own started (by kernel_rfl) Try.func6
    (ChangeSpec.witness6 (enc := enc) (C := Try.checked) false ⟨#[], #[.slice none 0 0], []⟩ 8 (by kernel_rfl) (by kernel_rfl) (by kernel_rfl) (by kernel_rfl)) ?_
  intro W base args ds gs before hval0 hW hcnd _
  have hval : ∀ (j : Nat) t v, Try.f6.params[j]? = some t → args[j]? = some v → Value.okWide Try.prog W .any base t v := hval0
  have hW' := hW
  obtain ⟨p, q, hA0, hV, rfl, hfz, hnd⟩ := hW
  have hA : DataW.TrodAll enc Try.prog W 0 (fun _ => true) true Try.f6.params.toList args.toList ds p := hA0
  rw [Try.params6] at hA hval
  obtain ⟨v0, vs0, d0, ds0, p0, q0, hargs, rfl, rfl, h0, r0⟩ := trodAll_cons hA
  obtain ⟨rfl, rfl, rfl⟩ := trodAll_nil r0
  obtain rfl : args = #[v0] := by cases args; simp_all
  obtain ⟨rfl, rfl⟩ := trodVars_none hV
  obtain ⟨a0, len0, cap0, rfl⟩ := okWide_slice Try.underlying22 (hval 0 22 v0 rfl rfl)
  have k0 := h0
  have lt0 : ∀ x ∈ p0, x.block < W.heap.size := by obtain ⟨m, hm⟩ := k0; exact DataW.trod_lt m _ _ _ hm
  obtain ⟨z0, w0⟩ : ∃ zs, IsRow .u8 W a0 len0 cap0 zs := by
    obtain ⟨fuel, hf⟩ := h0
    rcases open_ints Try.underlying22 Try.underlying5 (by kernel_rfl) hf with ⟨hcs, _⟩ | ⟨x, l, c, zs, hcs, _, hl, hm, hz, _, hcell, hwz⟩
    · simp [Value.cells] at hcs
      obtain ⟨rfl, rfl, rfl⟩ := hcs
      exact ⟨[], .inl ⟨rfl, rfl, rfl, rfl⟩⟩
    · simp [Value.cells] at hcs
      obtain ⟨rfl, rfl, rfl⟩ := hcs
      exact ⟨zs, .inr ⟨_, rfl, hl, hm, by simpa using hz, hcell, hwz⟩⟩
  clear hA0 hval0
  refine (walk a0 len0 cap0 z0 W w0).mono fun e W' ⟨he, bel⟩ => ?_
  subst he
  exact ⟨_, rfl, _, _, _, [], _, [], hW', trodAll_mk1 (shut_bool Try.underlying4 _), (trodAll_cons_mk (Below.trod laidOut (by kernel_rfl) (of_decide_eq_true (by kernel_rfl)) k0 bel lt0) trodAll_mk0), rfl, bel.frame _, fun h => by cases h⟩

theorem over : Rows.fnReaderIntAgreesWithNumberRow.holds Try.pinned (OpenSpec.ofChange Rows.fnReaderIntAgreesWithNumberSpec) :=
  OpenClaim.holds_of_wide 6 Try.f6 rfl rfl rfl rfl rfl rfl rfl ⟨rfl, rfl, rfl, rfl, rfl⟩ rfl rfl rfl rfl rfl (by kernel_rfl) Try.func6 (by kernel_rfl)
    (of_decide_eq_true (by kernel_rfl)) (by unfold Func.isWrapper; first | (rw [if_pos (by decide +kernel)]; kernel_rfl) | (rw [if_neg (by decide +kernel)]; exact ⟨rfl, rfl⟩))
    (fun os started H enc _ => lifted os started H enc)

/-- ████ THE STATEMENT ████ -/
theorem proved : Rows.FnReaderIntAgreesWithNumberSaid := over
#print axioms proved
end Go.Proofs.Qxb6606093a.fnReaderIntAgreesWithNumber
