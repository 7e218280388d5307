/-
  No cell of these rows narrows 'for every input' (looked for: loops, veiled, ifaces, maps, wideKeys, modest, calm, conditions, laid).
  DERIVED. THE GIVEN ROWS OF THIS SEAT. 4 by the template 'for every input the law returns true; each argument reads behind the call as it read before'; 0 by the template 'total and deterministic' (their statements: Qxb6606093aTotals.lean).
  GIVEN WITH THE SEED: the statements are not yours to turn. If you find one false, say at which input.
  Laid BY PROGRAM, IN A SANDBOX (cutbox-rows.mjs): the forced cells as the released guide's own fill.sh prints them over the translation d5ff85cb69072454… (all of the seat's roots in one cut). By AI agents, Wed Nov 11 2026. No macro, syntax, notation, axiom, sorry.
-/
import Derived.Test.Qxb6606093aChecked
import GoSem.Claim
import GoSem.ClaimJoined
import GoSem.ClaimMapViews
import Derived.JoinedTies
import Derived.KernelRfl
namespace Go.Proofs.Qxb6606093a
/- THE CELL 'sum', in the pinned program and in every row, IS THE sha256 OF THE DUMP (.gsa) THAT Qxb6606093aProg.lean LOADS. Nothing in Lean hashes anything: it is a label: what it is worth is what the hold of that sum in a sandbox is worth. -/
noncomputable def Try.pinned : Pinned := { name := "qxb6606093a", sum := "d5ff85cb690724543295523fbe0edf7ea6fed11fd0f11d02dfaf917ca56b2175", checked := Try.checked }
namespace Rows
def none {H : Type} : Left H := { results := [], args := [] }

/-- 'zzlaws_internal_jsonform_b1.FnNumberMatchesAutomaton': WHATEVER THE INPUT: true; the input reads as it did. -/
def fnNumberMatchesAutomatonSpec : ChangeSpec := { name := "fnNumberMatchesAutomaton", fn := fun _ => fun
  | [d1, d2] => { results := [.lit (.bool true)], args := [d1, d2] }
  | _ => none }
def fnNumberMatchesAutomatonRow : OpenClaim := { program := "qxb6606093a", sum := "d5ff85cb690724543295523fbe0edf7ea6fed11fd0f11d02dfaf917ca56b2175", func := "example.com/careful-courier/careful-courier/zzlaws_internal_jsonform_b1.FnNumberMatchesAutomaton", spec := "fnNumberMatchesAutomaton", apart := false }
def FnNumberMatchesAutomatonSaid : Prop := fnNumberMatchesAutomatonRow.holds Try.pinned (OpenSpec.ofChange fnNumberMatchesAutomatonSpec)

/-- ITS FALSE NEIGHBOUR: 'it returns false'. Refute it at one input. -/
def fnNumberMatchesAutomatonWrong : ChangeSpec := { name := "fnNumberMatchesAutomaton", fn := fun _ => fun
  | [d1, d2] => { results := [.lit (.bool false)], args := [d1, d2] }
  | _ => none }
def FnNumberMatchesAutomatonWrongFalsely : Prop := fnNumberMatchesAutomatonRow.holds Try.pinned (OpenSpec.ofChange fnNumberMatchesAutomatonWrong)

/-- 'zzlaws_internal_jsonform_b1.FnNumberDependsOnItsOwnBytesAlone': WHATEVER THE INPUT: true; the input reads as it did. -/
def fnNumberDependsOnItsOwnBytesAloneSpec : ChangeSpec := { name := "fnNumberDependsOnItsOwnBytesAlone", fn := fun _ => fun
  | [d1, d2] => { results := [.lit (.bool true)], args := [d1, d2] }
  | _ => none }
def fnNumberDependsOnItsOwnBytesAloneRow : OpenClaim := { program := "qxb6606093a", sum := "d5ff85cb690724543295523fbe0edf7ea6fed11fd0f11d02dfaf917ca56b2175", func := "example.com/careful-courier/careful-courier/zzlaws_internal_jsonform_b1.FnNumberDependsOnItsOwnBytesAlone", spec := "fnNumberDependsOnItsOwnBytesAlone", apart := false }
def FnNumberDependsOnItsOwnBytesAloneSaid : Prop := fnNumberDependsOnItsOwnBytesAloneRow.holds Try.pinned (OpenSpec.ofChange fnNumberDependsOnItsOwnBytesAloneSpec)

/-- ITS FALSE NEIGHBOUR: 'it returns false'. Refute it at one input. -/
def fnNumberDependsOnItsOwnBytesAloneWrong : ChangeSpec := { name := "fnNumberDependsOnItsOwnBytesAlone", fn := fun _ => fun
  | [d1, d2] => { results := [.lit (.bool false)], args := [d1, d2] }
  | _ => none }
def FnNumberDependsOnItsOwnBytesAloneWrongFalsely : Prop := fnNumberDependsOnItsOwnBytesAloneRow.holds Try.pinned (OpenSpec.ofChange fnNumberDependsOnItsOwnBytesAloneWrong)

/-- 'zzlaws_internal_jsonform_b1.FnReaderIntMatchesModel': WHATEVER THE INPUT: true; the input reads as it did. -/
def fnReaderIntMatchesModelSpec : ChangeSpec := { name := "fnReaderIntMatchesModel", fn := fun _ => fun
  | [d1, d2] => { results := [.lit (.bool true)], args := [d1, d2] }
  | _ => none }
def fnReaderIntMatchesModelRow : OpenClaim := { program := "qxb6606093a", sum := "d5ff85cb690724543295523fbe0edf7ea6fed11fd0f11d02dfaf917ca56b2175", func := "example.com/careful-courier/careful-courier/zzlaws_internal_jsonform_b1.FnReaderIntMatchesModel", spec := "fnReaderIntMatchesModel", apart := false }
def FnReaderIntMatchesModelSaid : Prop := fnReaderIntMatchesModelRow.holds Try.pinned (OpenSpec.ofChange fnReaderIntMatchesModelSpec)

/-- ITS FALSE NEIGHBOUR: 'it returns false'. Refute it at one input. -/
def fnReaderIntMatchesModelWrong : ChangeSpec := { name := "fnReaderIntMatchesModel", fn := fun _ => fun
  | [d1, d2] => { results := [.lit (.bool false)], args := [d1, d2] }
  | _ => none }
def FnReaderIntMatchesModelWrongFalsely : Prop := fnReaderIntMatchesModelRow.holds Try.pinned (OpenSpec.ofChange fnReaderIntMatchesModelWrong)

/-- 'zzlaws_internal_jsonform_b1.FnReaderIntAgreesWithNumber': WHATEVER THE INPUT: true; the input reads as it did. -/
def fnReaderIntAgreesWithNumberSpec : ChangeSpec := { name := "fnReaderIntAgreesWithNumber", fn := fun _ => fun
  | [d] => { results := [.lit (.bool true)], args := [d] }
  | _ => none }
def fnReaderIntAgreesWithNumberRow : OpenClaim := { program := "qxb6606093a", sum := "d5ff85cb690724543295523fbe0edf7ea6fed11fd0f11d02dfaf917ca56b2175", func := "example.com/careful-courier/careful-courier/zzlaws_internal_jsonform_b1.FnReaderIntAgreesWithNumber", spec := "fnReaderIntAgreesWithNumber", apart := false }
def FnReaderIntAgreesWithNumberSaid : Prop := fnReaderIntAgreesWithNumberRow.holds Try.pinned (OpenSpec.ofChange fnReaderIntAgreesWithNumberSpec)

/-- ITS FALSE NEIGHBOUR: 'it returns false'. Refute it at one input. -/
def fnReaderIntAgreesWithNumberWrong : ChangeSpec := { name := "fnReaderIntAgreesWithNumber", fn := fun _ => fun
  | [d] => { results := [.lit (.bool false)], args := [d] }
  | _ => none }
def FnReaderIntAgreesWithNumberWrongFalsely : Prop := fnReaderIntAgreesWithNumberRow.holds Try.pinned (OpenSpec.ofChange fnReaderIntAgreesWithNumberWrong)

end Rows
end Go.Proofs.Qxb6606093a
