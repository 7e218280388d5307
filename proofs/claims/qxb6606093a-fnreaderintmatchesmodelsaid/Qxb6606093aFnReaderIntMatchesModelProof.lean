/-
  The proof of the law FnReaderIntMatchesModel, off the given shell.
-/
import Derived.Test.Qxb6606093aRows
import Derived.WalkKit
import Derived.ProofKit
import Derived.OpenShut
import Derived.ShutString
import Derived.ChangeOld
import Derived.Below
import Derived.Test.Qxb6606093aWalkG
import Derived.Test.Qxb6606093aWalkH
namespace Go.Proofs.Qxb6606093a.fnReaderIntMatchesModel
open Go.ChangeShapes Go.WideShapes Go.ChangeAt Go.RowKit
open Go.ChangeMaps (open_string shut_string)
set_option linter.unusedVariables false

theorem own : ownKnob Try.prog.godebug = none := by kernel_rfl
theorem laidOut : laidOutB Try.prog = true := by kernel_rfl

/-- WHAT THE WALK IS TOLD OF A SLICE OF INTEGERS THAT CAME IN: it is nil; or it leads to a row of 'cap' cells, the numbers 'zs' (the first 'len' are its elements, the rest its spare room), each fitting its kind. -/
def IsRow (k : IntKind) (w : World) (a : Option Addr) (len cap : Nat) (zs : List Int) : Prop :=
  (a = none ∧ len = 0 ∧ cap = 0 ∧ zs = []) ∨
  ∃ x, a = some x ∧ len ≤ cap ∧ cap ≤ maxLen ∧ zs.length = cap ∧ (∀ i, i < zs.length → w.cell? (x.add i) = some (.int k (zs.getD i 0))) ∧ ∀ n ∈ zs, (Lit.int k n).wf = true

/-! ### STEP 1: THE WALK -/
open Num

theorem walk_big (a : Option Addr) (n cap : Nat) (i : Int) (w : World) (hm : n ≤ maxLen) (h : ¬ n ≤ 1048576) :
    Calls Try.prog 5 #[.slice a n cap, .int .i64 i] w fun e w' => e = .returned (.bool true) ∧ w = w' := by
  have hd : decide (n ≤ 1048576) = false := by simp [h]
  go_enter Try.func5, Try.ntmps5
  go_wp2_with (go_at_call 12; refine (bytes12_any _ _ _ _ _ hm).mono ?_; rintro e w' ⟨rfl, rfl⟩)
  go_ret
  exact ⟨rfl, rfl⟩

set_option maxRecDepth 20000 in
set_option maxHeartbeats 800000 in
theorem walk_in (b : Nat → Int) (bl off n cap : Nat) (n0 : Int) (w : World) (hm : n ≤ maxLen) (hn : n ≤ 1048576) (h0 : 0 < n)
    (hc : ∀ k, k < n → w.cell? ⟨bl, off + k, none⟩ = some (.int .u8 (b k))) :
    Calls Try.prog 5 #[.slice (some ⟨bl, off, none⟩) n cap, .int .i64 n0] w fun e w' => e = .returned (.bool true) ∧ Below w.heap.size w w' := by
  have hd : decide (n ≤ 1048576) = true := by simp [hn]
  go_enter Try.func5, Try.ntmps5
  go_wp2_with (first | (go_at_call 12; refine (bytes12_any _ _ _ _ _ hm).mono ?_; rintro e w' ⟨rfl, rfl⟩) | fail)
  refine (clone_any b bl off n cap _ hn h0 hc).mono ?_
  rintro e w1 ⟨rfl, hmade⟩
  have hb1 := hmade.1
  have hc1 : ∀ k, k < n → w1.cell? ⟨w.heap.size, 0 + k, none⟩ = some (.int .u8 (b k)) := fun k hk => by rw [Nat.zero_add]; exact hmade.cell k hk
  have hsz1 : w.heap.size < w1.heap.size := by have := hmade.2.1; omega
  clear hmade hc
  go_wp2_with fail
  refine (clone_any b w.heap.size 0 n n _ hn h0 hc1).mono ?_
  rintro e w2 ⟨rfl, hmade⟩
  have hb2 : Below w.heap.size w w2 := hb1.trans (hmade.1.mono (by omega))
  have hc2 : ∀ k, k < n → w2.cell? ⟨w1.heap.size, 0 + k, none⟩ = some (.int .u8 (b k)) := fun k hk => by rw [Nat.zero_add]; exact hmade.cell k hk
  have hc3 : ∀ k, k < n → w2.cell? ⟨w.heap.size, 0 + k, none⟩ = some (.int .u8 (b k)) := fun k hk => (hmade.1.cell (p := ⟨w.heap.size, 0 + k, none⟩) hsz1).trans (hc1 k hk)
  have hsz2 : w1.heap.size < w2.heap.size := by have := hmade.2.1; omega
  clear hmade hc1 hb1
  go_wp2_with fail
  refine (intModel_any b w1.heap.size 0 n n _ hn h0 hc2).mono ?_
  rintro e w3 ⟨hs, hb3⟩
  have hb4 : Below w.heap.size w w3 := hb2.trans (hb3.mono (by omega))
  have hc4 : ∀ k, k < n → w3.cell? ⟨w1.heap.size, 0 + k, none⟩ = some (.int .u8 (b k)) := fun k hk => (hb3.cell (p := ⟨w1.heap.size, 0 + k, none⟩) hsz2).trans (hc2 k hk)
  have hc5 : ∀ k, k < n → w3.cell? ⟨w.heap.size, 0 + k, none⟩ = some (.int .u8 (b k)) := fun k hk => (hb3.cell (p := ⟨w.heap.size, 0 + k, none⟩) (by show w.heap.size < w2.heap.size; omega)).trans (hc3 k hk)
  have hsz3 : w2.heap.size ≤ w3.heap.size := hb3.size
  clear hc2 hc3 hb2 hb3
  -- the world in which Int is called
  obtain ⟨W, hW⟩ : ∃ W, W = (w3.alloc (.cells #[.slice (some ⟨w.heap.size, 0, none⟩) n n] 41)).alloc (.cells #[.int .i64 n0] 2) := ⟨_, rfl⟩
  have hbW : Below w.heap.size w W := by rw [hW]; exact (hb4.alloc (by omega) _).alloc (by simp; omega) _
  have hbW3 : Below w3.heap.size w3 W := by rw [hW]; exact ((Below.refl _ _).alloc (Nat.le_refl _) _).alloc (by simp) _
  have hr : W.cell? ⟨w3.heap.size, 0, none⟩ = some (.slice (some ⟨w.heap.size, 0, none⟩) n n) := by rw [hW, World.cell?_alloc_past _ _ _ (by simp), World.cell?_alloc_at _ _ _ _ rfl]; rfl
  have hrf : W.frozen? ⟨w3.heap.size, 0, none⟩ = false := by rw [hW, World.frozen?_alloc_past _ _ _ (by simp), World.frozen?_alloc_at _ _ _ _ rfl]
  have hx : W.cell? ⟨w3.heap.size + 1, 0, none⟩ = some (.int .i64 n0) := by rw [hW, World.cell?_alloc_at _ _ _ _ (by simp)]; rfl
  have hxf : W.frozen? ⟨w3.heap.size + 1, 0, none⟩ = false := by rw [hW, World.frozen?_alloc_at _ _ _ _ (by simp)]
  have hcW : ∀ k, k < n → W.cell? ⟨w.heap.size, 0 + k, none⟩ = some (.int .u8 (b k)) := fun k hk => (hbW3.cell (p := ⟨w.heap.size, 0 + k, none⟩) (by show w.heap.size < w3.heap.size; omega)).trans (hc5 k hk)
  have hcR : ∀ k, k < n → W.cell? ⟨w1.heap.size, 0 + k, none⟩ = some (.int .u8 (b k)) := fun k hk => (hbW3.cell (p := ⟨w1.heap.size, 0 + k, none⟩) (by show w1.heap.size < w3.heap.size; omega)).trans (hc4 k hk)
  have HW := show Hid _ from hW
  clear hW hc4 hc5
  have hkn : dEnd b n 0 ≤ n := (dEnd_le b n 0 (Nat.zero_le _)).2
  obtain ⟨k, hk⟩ : ∃ k, k = dEnd b n 0 := ⟨_, rfl⟩
  rw [← hk] at hs hkn
  have HK := show Hid _ from hk
  clear hk
  rcases hs with ⟨hna, rfl⟩ | ⟨hya, rfl⟩
  · go_wp2_with fail
    refine (newReader_any _ _ _ _ _ rfl).mono ?_
    rintro e w4 ⟨rfl, rfl⟩
    go_wp2_with fail
    rw [← HW.out]
    refine (int_any b w3.heap.size (w3.heap.size + 1) w.heap.size 0 n n0 W hn h0 hcW hr hrf hx hxf (by omega)).mono ?_
    rintro e w5 (⟨-, rfl, rfl⟩ | ⟨h, -, -⟩)
    · clear HW
      go_wp2_with fail
      refine (readerData_any _ _ _ _ _ hr).mono ?_
      rintro e w6 ⟨rfl, rfl⟩
      go_wp2_with fail
      refine (equal_any b w.heap.size 0 w1.heap.size 0 n n n _ hn hcW hcR).mono ?_
      rintro e w7 ⟨rfl, hb7⟩
      go_wp2
      go_ret
      exact ⟨rfl, hbW.trans (hb7.mono (by have := hbW.size; omega))⟩
    · exact absurd h hna
  · go_wp2_with fail
    refine (newReader_any _ _ _ _ _ rfl).mono ?_
    rintro e w4 ⟨rfl, rfl⟩
    go_wp2_with fail
    rw [← HW.out]
    refine (int_any b w3.heap.size (w3.heap.size + 1) w.heap.size 0 n n0 W hn h0 hcW hr hrf hx hxf (by omega)).mono ?_
    rintro e w5 (⟨h, -, -⟩ | ⟨-, rfl, hdone⟩)
    · exact absurd hya h
    · rw [← HK.out] at hdone
      obtain ⟨a, c, hr5, hx5, ha5, hB5⟩ := hdone.facts (by omega) hr hx
      have hb5 := hB5 w3.heap.size (Nat.le_refl _) (by omega)
      have hbw5 : Below w.heap.size w w5 := hbW.trans (hb5.mono (by omega))
      have hc5 : ∀ j, j < n → w5.cell? ⟨w.heap.size, 0 + j, none⟩ = some (.int .u8 (b j)) := fun j hj => (hb5.cell (p := ⟨w.heap.size, 0 + j, none⟩) (by show w.heap.size < w3.heap.size; omega)).trans (hcW j hj)
      have hcR5 : ∀ j, j < n → w5.cell? ⟨w1.heap.size, 0 + j, none⟩ = some (.int .u8 (b j)) := fun j hj => (hb5.cell (p := ⟨w1.heap.size, 0 + j, none⟩) (by show w1.heap.size < w3.heap.size; omega)).trans (hcR j hj)
      clear HW hdone hB5 hb5 hr hx hrf hxf hcW hcR hbW3
      go_wp2_with fail
      refine (readerData_any _ _ _ _ _ hr5).mono ?_
      rintro e w6 ⟨rfl, rfl⟩
      by_cases hkl : k < n
      · obtain rfl := ha5 hkl
        go_wp2_with fail
        refine (equal_any (fun j => b (k + j)) w.heap.size k w1.heap.size k (n - k) c (n - k) _ (by omega) (fun j hj => by have := hc5 (k + j) (by omega); rw [Nat.zero_add] at this; exact this) (fun j hj => by have := hcR5 (k + j) (by omega); rw [Nat.zero_add] at this; exact this)).mono ?_
        rintro e w7 ⟨rfl, hb7⟩
        go_wp2
        go_ret
        exact ⟨rfl, hbw5.trans (hb7.mono (by have := hbw5.size; omega))⟩
      · obtain rfl : k = n := by omega
        rw [Nat.sub_self] at hr5 ⊢
        go_wp2_with fail
        refine (equal_none _ _ _ _ _).mono ?_
        rintro e w7 ⟨rfl, hb7⟩
        go_wp2
        go_ret
        exact ⟨rfl, hbw5.trans (hb7.mono (by have := hbw5.size; omega))⟩

theorem clone0 (a : Option Addr) (cap : Nat) (w : World) (h : a = none → cap = 0) :
    Calls Try.prog 8 #[.slice a 0 cap] w fun e w' => ∃ a', e = .returned (.slice a' 0 0) ∧ Below w.heap.size w w' := by
  cases a with
  | none =>
    obtain rfl := h rfl
    refine (clone_none w).mono ?_
    rintro e w' ⟨rfl, rfl⟩
    exact ⟨_, rfl, Below.refl _ _⟩
  | some x =>
    refine (clone_empty x cap w).mono ?_
    rintro e w' ⟨rfl, hb⟩
    exact ⟨_, rfl, hb⟩

set_option maxRecDepth 20000 in
set_option maxHeartbeats 800000 in
theorem walk_none (a : Option Addr) (cap : Nat) (n0 : Int) (w : World) (h : a = none → cap = 0) :
    Calls Try.prog 5 #[.slice a 0 cap, .int .i64 n0] w fun e w' => e = .returned (.bool true) ∧ Below w.heap.size w w' := by
  have hd : decide (0 ≤ 1048576) = true := rfl
  go_enter Try.func5, Try.ntmps5
  go_wp2_with (first | (go_at_call 12; refine (bytes12_any _ _ _ _ _ (Nat.zero_le _)).mono ?_; rintro e w' ⟨rfl, rfl⟩) | fail)
  refine (clone0 a cap _ h).mono ?_
  rintro e w1 ⟨a1, rfl, hb1⟩
  go_wp2_with fail
  refine (clone0 a1 0 _ (fun _ => rfl)).mono ?_
  rintro e w2 ⟨a2, rfl, hb2⟩
  have hb3 : Below w.heap.size w w2 := hb1.trans (hb2.mono hb1.size)
  clear hb1 hb2
  go_wp2_with fail
  refine (intModel_none a2 0 _).mono ?_
  rintro e w3 ⟨rfl, rfl⟩
  obtain ⟨W, hW⟩ : ∃ W, W = (w2.alloc (.cells #[.slice a1 0 0] 41)).alloc (.cells #[.int .i64 n0] 2) := ⟨_, rfl⟩
  have hbW : Below w.heap.size w W := by rw [hW]; exact (hb3.alloc hb3.size _).alloc (by have := hb3.size; simp; omega) _
  have hr : W.cell? ⟨w2.heap.size, 0, none⟩ = some (.slice a1 0 0) := by rw [hW, World.cell?_alloc_past _ _ _ (by simp), World.cell?_alloc_at _ _ _ _ rfl]; rfl
  have hx : W.cell? ⟨w2.heap.size + 1, 0, none⟩ = some (.int .i64 n0) := by rw [hW, World.cell?_alloc_at _ _ _ _ (by simp)]; rfl
  have HW := show Hid _ from hW
  clear hW hb3
  go_wp2_with fail
  refine (newReader_any _ _ _ _ _ rfl).mono ?_
  rintro e w4 ⟨rfl, rfl⟩
  go_wp2_with fail
  rw [← HW.out]
  refine (int_none _ _ _ _ _ hr).mono ?_
  rintro e w5 ⟨rfl, rfl⟩
  clear HW
  go_wp2_with fail
  refine (readerData_any _ _ _ _ _ hr).mono ?_
  rintro e w6 ⟨rfl, rfl⟩
  go_wp2_with fail
  refine (equal_none _ _ _ _ _).mono ?_
  rintro e w7 ⟨rfl, hb7⟩
  go_wp2
  go_ret
  exact ⟨rfl, hbW.trans (hb7.mono hbW.size)⟩

theorem walk (a0 : Option Addr) (len0 cap0 : Nat) (z0 : List Int) (a1 : Int) (w : World) (w0 : IsRow .u8 w a0 len0 cap0 z0) (w1 : (Lit.int .i64 a1).wf = true) :
    Calls Try.prog 5 #[.slice a0 len0 cap0, .int .i64 a1] w fun e w' => e = .returned (.bool true) ∧ Below w.heap.size w w' := by
  have hm : len0 ≤ maxLen := by
    rcases w0 with ⟨_, h, _, _⟩ | ⟨x, _, h1, h2, _⟩
    · rw [h]; exact Nat.zero_le _
    · omega
  by_cases hn : len0 ≤ 1048576
  · by_cases hz : len0 = 0
    · subst hz
      refine walk_none a0 cap0 a1 w ?_
      intro e
      rcases w0 with ⟨_, _, h, _⟩ | ⟨x, h, _⟩
      · exact h
      · rw [e] at h; cases h
    · rcases w0 with ⟨_, h, _, _⟩ | ⟨x, rfl, hl, hcap, hzl, hcell, hwz⟩
      · omega
      · obtain ⟨bl, off, spot⟩ := x
        have hspot : spot = none := by simpa [Addr.add] using World.cell?_spot (hcell 0 (by omega))
        subst hspot
        refine walk_in (fun k => z0.getD k 0) bl off len0 cap0 a1 w hm hn (by omega) ?_
        intro k hk
        have := hcell k (by omega)
        rw [add_plain] at this
        exact this
  · refine (walk_big a0 len0 cap0 a1 w hm hn).mono ?_
    rintro e w' ⟨rfl, rfl⟩
    exact ⟨rfl, Below.refl _ _⟩

/-! ### THE ROW's STEP: WRITTEN OUT: LEAVE IT -/
set_option maxRecDepth 100000 in
theorem lifted (os : Os) (started : os.Started) (H : Type) (enc : TypeId × Value → H) :
    ReturnsInHanded {} Try.checked os 5 .any (Rows.fnReaderIntMatchesModelSpec.pre6 enc Try.prog Try.f5 Rows.fnReaderIntMatchesModelRow.domain false) (Rows.fnReaderIntMatchesModelSpec.post enc Try.prog Try.f5 false true false false) := by
  refine returnsInHanded_of_change (C := Try.checked) own started (by kernel_rfl) Try.func5
    (ChangeSpec.witness6 (enc := enc) (C := Try.checked) false ⟨#[], #[.slice none 0 0, .int .i64 0], []⟩ 8 (by kernel_rfl) (by kernel_rfl) (by kernel_rfl) (by kernel_rfl)) ?_
  intro W base args ds gs before hval0 hW hcnd _
  have hval : ∀ (j : Nat) t v, Try.f5.params[j]? = some t → args[j]? = some v → Value.okWide Try.prog W .any base t v := hval0
  have hW' := hW
  obtain ⟨p, q, hA0, hV, rfl, hfz, hnd⟩ := hW
  have hA : DataW.TrodAll enc Try.prog W 0 (fun _ => true) true Try.f5.params.toList args.toList ds p := hA0
  rw [Try.params5] at hA hval
  obtain ⟨v0, vs0, d0, ds0, p0, q0, hargs, rfl, rfl, h0, r0⟩ := trodAll_cons hA
  obtain ⟨v1, vs1, d1, ds1, p1, q1, rfl, rfl, rfl, h1, r1⟩ := trodAll_cons r0
  obtain ⟨rfl, rfl, rfl⟩ := trodAll_nil r1
  obtain rfl : args = #[v0, v1] := by cases args; simp_all
  obtain ⟨rfl, rfl⟩ := trodVars_none hV
  obtain ⟨a0, len0, cap0, rfl⟩ := okWide_slice Try.underlying22 (hval 0 22 v0 rfl rfl)
  have k0 := h0
  have lt0 : ∀ x ∈ p0, x.block < W.heap.size := by obtain ⟨m, hm⟩ := k0; exact DataW.trod_lt m _ _ _ hm
  obtain ⟨z0, w0⟩ : ∃ zs, IsRow .u8 W a0 len0 cap0 zs := by
    obtain ⟨fuel, hf⟩ := h0
    rcases open_ints Try.underlying22 Try.underlying5 (by kernel_rfl) hf with ⟨hcs, _⟩ | ⟨x, l, c, zs, hcs, _, hl, hm, hz, _, hcell, hwz⟩
    · simp [Value.cells] at hcs
      obtain ⟨rfl, rfl, rfl⟩ := hcs
      exact ⟨[], .inl ⟨rfl, rfl, rfl, rfl⟩⟩
    · simp [Value.cells] at hcs
      obtain ⟨rfl, rfl, rfl⟩ := hcs
      exact ⟨zs, .inr ⟨_, rfl, hl, hm, by simpa using hz, hcell, hwz⟩⟩
  obtain ⟨a1, rfl, rfl, rfl, w1⟩ := open_int Try.underlying2 (hval 1 2 v1 rfl rfl) h1
  clear hA0 hval0
  refine (walk a0 len0 cap0 z0 a1 W w0 w1).mono fun e W' ⟨he, bel⟩ => ?_
  subst he
  exact ⟨_, rfl, _, _, _, [], _, [], hW', trodAll_mk1 (shut_bool Try.underlying4 _), (trodAll_cons_mk (Below.trod laidOut (by kernel_rfl) (of_decide_eq_true (by kernel_rfl)) k0 bel lt0) (trodAll_cons_mk (shut_int Try.underlying2 w1) trodAll_mk0)), rfl, bel.frame _, fun h => by cases h⟩

theorem over : Rows.fnReaderIntMatchesModelRow.holds Try.pinned (OpenSpec.ofChange Rows.fnReaderIntMatchesModelSpec) :=
  OpenClaim.holds_of_wide 5 Try.f5 rfl rfl rfl rfl rfl rfl rfl ⟨rfl, rfl, rfl, rfl, rfl⟩ rfl rfl rfl rfl rfl (by kernel_rfl) Try.func5 (by kernel_rfl)
    (of_decide_eq_true (by kernel_rfl)) (by unfold Func.isWrapper; first | (rw [if_pos (by decide +kernel)]; kernel_rfl) | (rw [if_neg (by decide +kernel)]; exact ⟨rfl, rfl⟩))
    (fun os started H enc _ => lifted os started H enc)

/-- ████ THE STATEMENT ████ -/
theorem proved : Rows.FnReaderIntMatchesModelSaid := over
#print axioms proved
end Go.Proofs.Qxb6606093a.fnReaderIntMatchesModel
