/-
  The proof of the law FnNumberMatchesAutomaton, off the given shell.
-/
import Derived.Test.Qxb6606093aRows
import Derived.WalkKit
import Derived.ProofKit
import Derived.OpenShut
import Derived.ShutString
import Derived.ChangeOld
import Derived.Below
import Derived.Test.Qxb6606093aWalkB
import Derived.Test.Qxb6606093aWalkC
import Derived.Test.Qxb6606093aWalkD
namespace Go.Proofs.Qxb6606093a.fnNumberMatchesAutomaton
open Go.ChangeShapes Go.WideShapes Go.ChangeAt Go.RowKit
open Go.ChangeMaps (open_string shut_string)
set_option linter.unusedVariables false

theorem own : ownKnob Try.prog.godebug = none := by kernel_rfl
theorem laidOut : laidOutB Try.prog = true := by kernel_rfl

/-- WHAT THE WALK IS TOLD OF A SLICE OF INTEGERS THAT CAME IN: it is nil; or it leads to a row of 'cap' cells, the numbers 'zs' (the first 'len' are its elements, the rest its spare room), each fitting its kind. -/
def IsRow (k : IntKind) (w : World) (a : Option Addr) (len cap : Nat) (zs : List Int) : Prop :=
  (a = none ∧ len = 0 ∧ cap = 0 ∧ zs = []) ∨
  ∃ x, a = some x ∧ len ≤ cap ∧ cap ≤ maxLen ∧ zs.length = cap ∧ (∀ i, i < zs.length → w.cell? (x.add i) = some (.int k (zs.getD i 0))) ∧ ∀ n ∈ zs, (Lit.int k n).wf = true

/-! ### STEP 1: THE WALK -/
theorem walk_big (a : Option Addr) (n cap : Nat) (i : Int) (w : World) (hm : n ≤ maxLen) (h : ¬ n ≤ 1048576) :
    Calls Try.prog 3 #[.slice a n cap, .int .i64 i] w fun e w' => e = .returned (.bool true) ∧ w = w' := by
  have hd : decide (n ≤ 1048576) = false := by simp [h]
  go_enter Try.func3, Try.ntmps3
  go_wp2_with (go_at_call 7; refine (bytes7_any _ _ _ _ _ hm).mono ?_; rintro e w' ⟨rfl, rfl⟩)
  go_ret
  exact ⟨rfl, rfl⟩

theorem walk_out (a : Option Addr) (n cap : Nat) (i : Int) (w : World) (hm : n ≤ maxLen) (h : n ≤ 1048576) (hi : i < 0 ∨ (n : Int) ≤ i) :
    Calls Try.prog 3 #[.slice a n cap, .int .i64 i] w fun e w' => e = .returned (.bool true) ∧ w = w' := by
  have hd : decide (n ≤ 1048576) = true := by simp [h]
  rcases hi with hi | hi
  · go_enter Try.func3, Try.ntmps3
    go_wp2_with (go_at_call 7; refine (bytes7_any _ _ _ _ _ hm).mono ?_; rintro e w' ⟨rfl, rfl⟩)
    go_ret
    exact ⟨rfl, rfl⟩
  · have hi0 : ¬ i < 0 := by omega
    go_enter Try.func3, Try.ntmps3
    go_wp2_with (go_at_call 7; refine (bytes7_any _ _ _ _ _ hm).mono ?_; rintro e w' ⟨rfl, rfl⟩)
    go_ret
    exact ⟨rfl, rfl⟩

theorem walk_in (b : Nat → Int) (bl off n cap i : Nat) (w : World) (hm : n ≤ maxLen) (hn : n ≤ 1048576) (hi : i < n)
    (hc : ∀ k, k < n → w.cell? ⟨bl, off + k, none⟩ = some (.int .u8 (b k))) :
    Calls Try.prog 3 #[.slice (some ⟨bl, off, none⟩) n cap, .int .i64 i] w fun e w' => e = .returned (.bool true) ∧ Below w.heap.size w w' := by
  have hd : decide (n ≤ 1048576) = true := by simp [hn]
  have HN : Hid (Num.num b n i = Num.run b n 0 i) := Num.num_run b n i hi
  have hb0 : ((Num.num b n i) == (Num.run b n 0 i)) = true := by rw [HN.out]; simp
  go_enter Try.func3, Try.ntmps3
  go_wp2_with (first | (go_at_call 7; refine (bytes7_any _ _ _ _ _ hm).mono ?_; rintro e w' ⟨rfl, rfl⟩) | fail)
  refine (clone_any b bl off n cap _ hn (by omega) hc).mono ?_
  rintro e w1 ⟨rfl, hmade⟩
  have hb1 := hmade.1
  have hc1 : ∀ k, k < n → w1.cell? ⟨w.heap.size, 0 + k, none⟩ = some (.int .u8 (b k)) := fun k hk => by rw [Nat.zero_add]; exact hmade.cell k hk
  have hsz1 := hmade.2.1
  clear hmade hc
  go_wp2_with fail
  refine (clone_any b w.heap.size 0 n n _ hn (by omega) hc1).mono ?_
  rintro e w2 ⟨rfl, hmade⟩
  have hb2 : Below w.heap.size w w2 := hb1.trans (hmade.1.mono (by omega))
  have hc2 : ∀ k, k < n → w2.cell? ⟨w1.heap.size, 0 + k, none⟩ = some (.int .u8 (b k)) := fun k hk => by rw [Nat.zero_add]; exact hmade.cell k hk
  have hc3 : ∀ k, k < n → w2.cell? ⟨w.heap.size, 0 + k, none⟩ = some (.int .u8 (b k)) := fun k hk => (hmade.1.cell (p := ⟨w.heap.size, 0 + k, none⟩) (by show w.heap.size < w1.heap.size; omega)).trans (hc1 k hk)
  clear hmade hc1 hb1 hsz1
  go_wp2_with fail
  refine (model_any b w1.heap.size 0 n n i _ hn (by omega) hc2).mono ?_
  rintro e w3 ⟨rfl, rfl⟩
  go_wp2_with fail
  refine (zzNum_any b w.heap.size 0 n n i _ _ rfl hn hi hc3).mono ?_
  rintro e w3 ⟨rfl, rfl⟩
  go_wp2
  go_ret
  exact ⟨rfl, hb2⟩

theorem walk (a0 : Option Addr) (len0 cap0 : Nat) (z0 : List Int) (a1 : Int) (w : World) (w0 : IsRow .u8 w a0 len0 cap0 z0) (w1 : (Lit.int .i64 a1).wf = true) :
    Calls Try.prog 3 #[.slice a0 len0 cap0, .int .i64 a1] w fun e w' => e = .returned (.bool true) ∧ Below w.heap.size w w' := by
  have hm : len0 ≤ maxLen := by
    rcases w0 with ⟨_, h, _, _⟩ | ⟨x, _, h1, h2, _⟩
    · rw [h]; exact Nat.zero_le _
    · omega
  by_cases hn : len0 ≤ 1048576
  · by_cases hi : a1 < 0 ∨ (len0 : Int) ≤ a1
    · refine (walk_out a0 len0 cap0 a1 w hm hn hi).mono ?_
      rintro e w' ⟨rfl, rfl⟩
      exact ⟨rfl, Below.refl _ _⟩
    · rcases w0 with ⟨_, h, _, _⟩ | ⟨x, rfl, hl, hcap, hz, hcell, hwz⟩
      · omega
      · obtain ⟨i, rfl⟩ : ∃ i : Nat, a1 = i := ⟨a1.toNat, by omega⟩
        obtain ⟨bl, off, spot⟩ := x
        have hspot : spot = none := by simpa [Addr.add] using World.cell?_spot (hcell 0 (by omega))
        subst hspot
        refine walk_in (fun k => z0.getD k 0) bl off len0 cap0 i w hm hn (by omega) ?_
        intro k hk
        have := hcell k (by omega)
        rw [add_plain] at this
        exact this
  · refine (walk_big a0 len0 cap0 a1 w hm hn).mono ?_
    rintro e w' ⟨rfl, rfl⟩
    exact ⟨rfl, Below.refl _ _⟩

/-! ### THE ROW's STEP: WRITTEN OUT: LEAVE IT -/
set_option maxRecDepth 100000 in
theorem lifted (os : Os) (started : os.Started) (H : Type) (enc : TypeId × Value → H) :
    ReturnsInHanded {} Try.checked os 3 .any (Rows.fnNumberMatchesAutomatonSpec.pre6 enc Try.prog Try.f3 Rows.fnNumberMatchesAutomatonRow.domain false) (Rows.fnNumberMatchesAutomatonSpec.post enc Try.prog Try.f3 false true false false) := by
  refine returnsInHanded_of_change (C := Try.checked) own started (by kernel_rfl) Try.func3
    (ChangeSpec.witness6 (enc := enc) (C := Try.checked) false ⟨#[], #[.slice none 0 0, .int .i64 0], []⟩ 8 (by kernel_rfl) (by kernel_rfl) (by kernel_rfl) (by kernel_rfl)) ?_
  intro W base args ds gs before hval0 hW hcnd _
  have hval : ∀ (j : Nat) t v, Try.f3.params[j]? = some t → args[j]? = some v → Value.okWide Try.prog W .any base t v := hval0
  have hW' := hW
  obtain ⟨p, q, hA0, hV, rfl, hfz, hnd⟩ := hW
  have hA : DataW.TrodAll enc Try.prog W 0 (fun _ => true) true Try.f3.params.toList args.toList ds p := hA0
  rw [Try.params3] at hA hval
  obtain ⟨v0, vs0, d0, ds0, p0, q0, hargs, rfl, rfl, h0, r0⟩ := trodAll_cons hA
  obtain ⟨v1, vs1, d1, ds1, p1, q1, rfl, rfl, rfl, h1, r1⟩ := trodAll_cons r0
  obtain ⟨rfl, rfl, rfl⟩ := trodAll_nil r1
  obtain rfl : args = #[v0, v1] := by cases args; simp_all
  obtain ⟨rfl, rfl⟩ := trodVars_none hV
  obtain ⟨a0, len0, cap0, rfl⟩ := okWide_slice Try.underlying22 (hval 0 22 v0 rfl rfl)
  have k0 := h0
  have lt0 : ∀ x ∈ p0, x.block < W.heap.size := by obtain ⟨m, hm⟩ := k0; exact DataW.trod_lt m _ _ _ hm
  obtain ⟨z0, w0⟩ : ∃ zs, IsRow .u8 W a0 len0 cap0 zs := by
    obtain ⟨fuel, hf⟩ := h0
    rcases open_ints Try.underlying22 Try.underlying5 (by kernel_rfl) hf with ⟨hcs, _⟩ | ⟨x, l, c, zs, hcs, _, hl, hm, hz, _, hcell, hwz⟩
    · simp [Value.cells] at hcs
      obtain ⟨rfl, rfl, rfl⟩ := hcs
      exact ⟨[], .inl ⟨rfl, rfl, rfl, rfl⟩⟩
    · simp [Value.cells] at hcs
      obtain ⟨rfl, rfl, rfl⟩ := hcs
      exact ⟨zs, .inr ⟨_, rfl, hl, hm, by simpa using hz, hcell, hwz⟩⟩
  obtain ⟨a1, rfl, rfl, rfl, w1⟩ := open_int Try.underlying3 (hval 1 3 v1 rfl rfl) h1
  clear hA0 hval0
  refine (walk a0 len0 cap0 z0 a1 W w0 w1).mono fun e W' ⟨he, bel⟩ => ?_
  subst he
  exact ⟨_, rfl, _, _, _, [], _, [], hW', trodAll_mk1 (shut_bool Try.underlying4 _), (trodAll_cons_mk (Below.trod laidOut (by kernel_rfl) (of_decide_eq_true (by kernel_rfl)) k0 bel lt0) (trodAll_cons_mk (shut_int Try.underlying3 w1) trodAll_mk0)), rfl, bel.frame _, fun h => by cases h⟩

theorem over : Rows.fnNumberMatchesAutomatonRow.holds Try.pinned (OpenSpec.ofChange Rows.fnNumberMatchesAutomatonSpec) :=
  OpenClaim.holds_of_wide 3 Try.f3 rfl rfl rfl rfl rfl rfl rfl ⟨rfl, rfl, rfl, rfl, rfl⟩ rfl rfl rfl rfl rfl (by kernel_rfl) Try.func3 (by kernel_rfl)
    (of_decide_eq_true (by kernel_rfl)) (by unfold Func.isWrapper; first | (rw [if_pos (by decide +kernel)]; kernel_rfl) | (rw [if_neg (by decide +kernel)]; exact ⟨rfl, rfl⟩))
    (fun os started H enc _ => lifted os started H enc)

/-- ████ THE STATEMENT ████ -/
theorem proved : Rows.FnNumberMatchesAutomatonSaid := over
#print axioms proved
end Go.Proofs.Qxb6606093a.fnNumberMatchesAutomaton
