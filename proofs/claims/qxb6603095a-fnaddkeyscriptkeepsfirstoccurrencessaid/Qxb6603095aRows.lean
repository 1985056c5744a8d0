/-
  NARROWER THAN 'FOR EVERY INPUT', by the rows' own cells (each row's printed sentence says how): FnAddKeyMatchesSetModel: maps.
  DERIVED. THE GIVEN ROWS OF THIS SEAT. 6 by the template 'for every input the law returns true; each argument reads behind the call as it read before'; 0 by the template 'total and deterministic' (their statements: Qxb6603095aTotals.lean).
  GIVEN WITH THE SEED: the statements are not yours to turn. If you find one false, say at which input.
  Laid BY PROGRAM, IN A SANDBOX (cutbox-rows.mjs): the forced cells as the released guide's own fill.sh prints them over the translation a5eae7d71845f9ce… (all of the seat's roots in one cut). By AI agents, Wed Nov 11 2026. No macro, syntax, notation, axiom, sorry.
-/
import Derived.Test.Qxb6603095aChecked
import GoSem.Claim
import GoSem.ClaimJoined
import GoSem.ClaimMapViews
import Derived.JoinedTies
import Derived.KernelRfl
namespace Go.Proofs.Qxb6603095a
/- THE CELL 'sum', in the pinned program and in every row, IS THE sha256 OF THE DUMP (.gsa) THAT Qxb6603095aProg.lean LOADS. Nothing in Lean hashes anything: it is a label: what it is worth is what the hold of that sum in a sandbox is worth. -/
noncomputable def Try.pinned : Pinned := { name := "qxb6603095a", sum := "a5eae7d71845f9cecb8d3950f0e73ba59b6ebb66efb8b9580ed51c04c305b86c", checked := Try.checked }
namespace Rows
def none {H : Type} : Left H := { results := [], args := [] }

/-- 'zzlaws_internal_jsondoc_b1.FnIsScalarMatchesAutomaton': WHATEVER THE INPUT: true; the input reads as it did. -/
def fnIsScalarMatchesAutomatonSpec : ChangeSpec := { name := "fnIsScalarMatchesAutomaton", fn := fun _ => fun
  | [d] => { results := [.lit (.bool true)], args := [d] }
  | _ => none }
def fnIsScalarMatchesAutomatonRow : OpenClaim := { program := "qxb6603095a", sum := "a5eae7d71845f9cecb8d3950f0e73ba59b6ebb66efb8b9580ed51c04c305b86c", func := "example.com/trifold/trifold/zzlaws_internal_jsondoc_b1.FnIsScalarMatchesAutomaton", spec := "fnIsScalarMatchesAutomaton", apart := false }
def FnIsScalarMatchesAutomatonSaid : Prop := fnIsScalarMatchesAutomatonRow.holds Try.pinned (OpenSpec.ofChange fnIsScalarMatchesAutomatonSpec)

/-- ITS FALSE NEIGHBOUR: 'it returns false'. Refute it at one input. -/
def fnIsScalarMatchesAutomatonWrong : ChangeSpec := { name := "fnIsScalarMatchesAutomaton", fn := fun _ => fun
  | [d] => { results := [.lit (.bool false)], args := [d] }
  | _ => none }
def FnIsScalarMatchesAutomatonWrongFalsely : Prop := fnIsScalarMatchesAutomatonRow.holds Try.pinned (OpenSpec.ofChange fnIsScalarMatchesAutomatonWrong)

/-- 'zzlaws_internal_jsondoc_b1.FnIsScalarNegatedNumber': WHATEVER THE INPUT: true; the input reads as it did. -/
def fnIsScalarNegatedNumberSpec : ChangeSpec := { name := "fnIsScalarNegatedNumber", fn := fun _ => fun
  | [d] => { results := [.lit (.bool true)], args := [d] }
  | _ => none }
def fnIsScalarNegatedNumberRow : OpenClaim := { program := "qxb6603095a", sum := "a5eae7d71845f9cecb8d3950f0e73ba59b6ebb66efb8b9580ed51c04c305b86c", func := "example.com/trifold/trifold/zzlaws_internal_jsondoc_b1.FnIsScalarNegatedNumber", spec := "fnIsScalarNegatedNumber", apart := false }
def FnIsScalarNegatedNumberSaid : Prop := fnIsScalarNegatedNumberRow.holds Try.pinned (OpenSpec.ofChange fnIsScalarNegatedNumberSpec)

/-- ITS FALSE NEIGHBOUR: 'it returns false'. Refute it at one input. -/
def fnIsScalarNegatedNumberWrong : ChangeSpec := { name := "fnIsScalarNegatedNumber", fn := fun _ => fun
  | [d] => { results := [.lit (.bool false)], args := [d] }
  | _ => none }
def FnIsScalarNegatedNumberWrongFalsely : Prop := fnIsScalarNegatedNumberRow.holds Try.pinned (OpenSpec.ofChange fnIsScalarNegatedNumberWrong)

/-- 'zzlaws_internal_jsondoc_b1.FnAddKeyMatchesSetModel': WHATEVER THE INPUT: true; the input reads as it did. -/
def fnAddKeyMatchesSetModelSpec : ChangeSpec := { name := "fnAddKeyMatchesSetModel", fn := fun _ => fun
  | [d1, d2, d3, d4, d5, d6] => { results := [.lit (.bool true)], args := [d1, d2, d3, d4, d5, d6] }
  | _ => none }
def fnAddKeyMatchesSetModelRow : OpenClaim := { program := "qxb6603095a", sum := "a5eae7d71845f9cecb8d3950f0e73ba59b6ebb66efb8b9580ed51c04c305b86c", func := "example.com/trifold/trifold/zzlaws_internal_jsondoc_b1.FnAddKeyMatchesSetModel", spec := "fnAddKeyMatchesSetModel", maps := true, apart := false }
def FnAddKeyMatchesSetModelSaid : Prop := fnAddKeyMatchesSetModelRow.holds Try.pinned (OpenSpec.ofChange fnAddKeyMatchesSetModelSpec)

/-- ITS FALSE NEIGHBOUR: 'it returns false'. Refute it at one input. -/
def fnAddKeyMatchesSetModelWrong : ChangeSpec := { name := "fnAddKeyMatchesSetModel", fn := fun _ => fun
  | [d1, d2, d3, d4, d5, d6] => { results := [.lit (.bool false)], args := [d1, d2, d3, d4, d5, d6] }
  | _ => none }
def FnAddKeyMatchesSetModelWrongFalsely : Prop := fnAddKeyMatchesSetModelRow.holds Try.pinned (OpenSpec.ofChange fnAddKeyMatchesSetModelWrong)

/-- 'zzlaws_internal_jsondoc_b1.FnAddKeyScriptKeepsFirstOccurrences': WHATEVER THE INPUT: true; the input reads as it did. -/
def fnAddKeyScriptKeepsFirstOccurrencesSpec : ChangeSpec := { name := "fnAddKeyScriptKeepsFirstOccurrences", fn := fun _ => fun
  | [d1, d2] => { results := [.lit (.bool true)], args := [d1, d2] }
  | _ => none }
def fnAddKeyScriptKeepsFirstOccurrencesRow : OpenClaim := { program := "qxb6603095a", sum := "a5eae7d71845f9cecb8d3950f0e73ba59b6ebb66efb8b9580ed51c04c305b86c", func := "example.com/trifold/trifold/zzlaws_internal_jsondoc_b1.FnAddKeyScriptKeepsFirstOccurrences", spec := "fnAddKeyScriptKeepsFirstOccurrences", apart := false }
def FnAddKeyScriptKeepsFirstOccurrencesSaid : Prop := fnAddKeyScriptKeepsFirstOccurrencesRow.holds Try.pinned (OpenSpec.ofChange fnAddKeyScriptKeepsFirstOccurrencesSpec)

/-- ITS FALSE NEIGHBOUR: 'it returns false'. Refute it at one input. -/
def fnAddKeyScriptKeepsFirstOccurrencesWrong : ChangeSpec := { name := "fnAddKeyScriptKeepsFirstOccurrences", fn := fun _ => fun
  | [d1, d2] => { results := [.lit (.bool false)], args := [d1, d2] }
  | _ => none }
def FnAddKeyScriptKeepsFirstOccurrencesWrongFalsely : Prop := fnAddKeyScriptKeepsFirstOccurrencesRow.holds Try.pinned (OpenSpec.ofChange fnAddKeyScriptKeepsFirstOccurrencesWrong)

/-- 'zzlaws_internal_jsondoc_b1.FnStringIsMeansDecodesToLetters': WHATEVER THE INPUT: true; the input reads as it did. -/
def fnStringIsMeansDecodesToLettersSpec : ChangeSpec := { name := "fnStringIsMeansDecodesToLetters", fn := fun _ => fun
  | [d1, d2] => { results := [.lit (.bool true)], args := [d1, d2] }
  | _ => none }
def fnStringIsMeansDecodesToLettersRow : OpenClaim := { program := "qxb6603095a", sum := "a5eae7d71845f9cecb8d3950f0e73ba59b6ebb66efb8b9580ed51c04c305b86c", func := "example.com/trifold/trifold/zzlaws_internal_jsondoc_b1.FnStringIsMeansDecodesToLetters", spec := "fnStringIsMeansDecodesToLetters", apart := false }
def FnStringIsMeansDecodesToLettersSaid : Prop := fnStringIsMeansDecodesToLettersRow.holds Try.pinned (OpenSpec.ofChange fnStringIsMeansDecodesToLettersSpec)

/-- ITS FALSE NEIGHBOUR: 'it returns false'. Refute it at one input. -/
def fnStringIsMeansDecodesToLettersWrong : ChangeSpec := { name := "fnStringIsMeansDecodesToLetters", fn := fun _ => fun
  | [d1, d2] => { results := [.lit (.bool false)], args := [d1, d2] }
  | _ => none }
def FnStringIsMeansDecodesToLettersWrongFalsely : Prop := fnStringIsMeansDecodesToLettersRow.holds Try.pinned (OpenSpec.ofChange fnStringIsMeansDecodesToLettersWrong)

/-- 'zzlaws_internal_jsondoc_b1.FnStringIsEncodedWordMatchesOnlyItself': WHATEVER THE INPUT: true; the input reads as it did. -/
def fnStringIsEncodedWordMatchesOnlyItselfSpec : ChangeSpec := { name := "fnStringIsEncodedWordMatchesOnlyItself", fn := fun _ => fun
  | [d1, d2, d3] => { results := [.lit (.bool true)], args := [d1, d2, d3] }
  | _ => none }
def fnStringIsEncodedWordMatchesOnlyItselfRow : OpenClaim := { program := "qxb6603095a", sum := "a5eae7d71845f9cecb8d3950f0e73ba59b6ebb66efb8b9580ed51c04c305b86c", func := "example.com/trifold/trifold/zzlaws_internal_jsondoc_b1.FnStringIsEncodedWordMatchesOnlyItself", spec := "fnStringIsEncodedWordMatchesOnlyItself", apart := false }
def FnStringIsEncodedWordMatchesOnlyItselfSaid : Prop := fnStringIsEncodedWordMatchesOnlyItselfRow.holds Try.pinned (OpenSpec.ofChange fnStringIsEncodedWordMatchesOnlyItselfSpec)

/-- ITS FALSE NEIGHBOUR: 'it returns false'. Refute it at one input. -/
def fnStringIsEncodedWordMatchesOnlyItselfWrong : ChangeSpec := { name := "fnStringIsEncodedWordMatchesOnlyItself", fn := fun _ => fun
  | [d1, d2, d3] => { results := [.lit (.bool false)], args := [d1, d2, d3] }
  | _ => none }
def FnStringIsEncodedWordMatchesOnlyItselfWrongFalsely : Prop := fnStringIsEncodedWordMatchesOnlyItselfRow.holds Try.pinned (OpenSpec.ofChange fnStringIsEncodedWordMatchesOnlyItselfWrong)

end Rows
end Go.Proofs.Qxb6603095a
