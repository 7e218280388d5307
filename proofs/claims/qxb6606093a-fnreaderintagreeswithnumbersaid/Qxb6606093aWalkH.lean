/-
  What Int leaves, read off; zzIntModel (13) at no bytes.
-/
import Derived.Test.Qxb6606093aWalkE
import Derived.Test.Qxb6606093aWalkF
import Derived.OwnWalk
namespace Go.Proofs.Qxb6606093a
open Go.ChangeShapes Go.WideShapes Go.ChangeAt Go.RowKit
open Num
set_option linter.unusedVariables false

theorem IntDone.facts {b : Nat → Int} {rb nb bl off n k : Nat} {w w' : World} (h : IntDone b rb nb bl off n k w w') (hne : rb ≠ nb) {x1 x2 : Value} (hr : w.cell? ⟨rb, 0, none⟩ = some x1) (hx : w.cell? ⟨nb, 0, none⟩ = some x2) :
    ∃ a c, w'.cell? ⟨rb, 0, none⟩ = some (.slice a (n - k) c) ∧ w'.cell? ⟨nb, 0, none⟩ = some (.int .i64 (val b k)) ∧ (k < n → a = some ⟨bl, off + k, none⟩) ∧ (∀ B, B ≤ rb → B ≤ nb → Below B w w') := by
  obtain ⟨a, c, rfl, ha⟩ := h
  have h1 : (⟨nb, 0, none⟩ : Addr) ≠ ⟨rb, 0, none⟩ := by intro e; injection e with e1 _ _; omega
  have h2 : (⟨rb, 0, none⟩ : Addr) ≠ ⟨nb, 0, none⟩ := fun e => h1 e.symm
  have hr' : (w.setCell ⟨nb, 0, none⟩ (.int .i64 (val b k))).cell? ⟨rb, 0, none⟩ = some x1 := by rw [World.cell?_setCell_other _ _ _ _ h1]; exact hr
  refine ⟨a, c, World.cell?_setCell_same _ _ _ hr', ?_, ha, fun B h3 h4 => ((Below.refl _ _).setCell h4 _).setCell h3 _⟩
  rw [World.cell?_setCell_other _ _ _ _ h2]
  exact World.cell?_setCell_same _ _ _ hx

theorem intModel_none (a : Option Addr) (cap : Nat) (w : World) :
    Calls Try.prog 13 #[.slice a 0 cap] w fun e w' => e = .returned (.tuple #[.bool false, .int .i64 0, .int .i64 0]) ∧ w = w' := by
  go_enter Try.func13, Try.ntmps13
  go_wp2
  refine wp_loop_rounds 1 ?_
  rw [rounds_succ]
  go_wp2
  go_ret3
  exact ⟨rfl, rfl⟩
end Go.Proofs.Qxb6606093a
