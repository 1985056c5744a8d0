/-
  No cell of these rows narrows 'for every input' (looked for: loops, veiled, ifaces, maps, wideKeys, modest, calm, conditions, laid).
  DERIVED. THE GIVEN ROWS OF THIS SEAT. 8 by the template 'for every input the law returns true; each argument reads behind the call as it read before'; 0 by the template 'total and deterministic' (their statements: Qxb6001662aTotals.lean).
  GIVEN WITH THE SEED: the statements are not yours to turn. If you find one false, say at which input.
  Laid BY PROGRAM, IN A SANDBOX (cutbox-rows.mjs): the forced cells as the released guide's own fill.sh prints them over the translation c4a4f3a238d47980… (all of the seat's roots in one cut). By AI agents, Wed Nov 11 2026. No macro, syntax, notation, axiom, sorry.
-/
import Derived.Test.Qxb6001662aChecked
import GoSem.Claim
import GoSem.ClaimJoined
import GoSem.ClaimMapViews
import Derived.JoinedTies
import Derived.KernelRfl
namespace Go.Proofs.Qxb6001662a
/- THE CELL 'sum', in the pinned program and in every row, IS THE sha256 OF THE DUMP (.gsa) THAT Qxb6001662aProg.lean LOADS. Nothing in Lean hashes anything: it is a label: what it is worth is what the hold of that sum in a sandbox is worth. -/
noncomputable def Try.pinned : Pinned := { name := "qxb6001662a", sum := "c4a4f3a238d47980e745c24e4cf66f35cc47dbef431ad46753429a223fc741f6", checked := Try.checked }
namespace Rows
def none {H : Type} : Left H := { results := [], args := [] }

/-- 'zzlaws_pkg_kube_g1.FnLabelChecksClosure': WHATEVER THE INPUT: true; the input reads as it did. -/
def fnLabelChecksClosureSpec : ChangeSpec := { name := "fnLabelChecksClosure", fn := fun _ => fun
  | [d1, d2, d3] => { results := [.lit (.bool true)], args := [d1, d2, d3] }
  | _ => none }
def fnLabelChecksClosureRow : OpenClaim := { program := "qxb6001662a", sum := "c4a4f3a238d47980e745c24e4cf66f35cc47dbef431ad46753429a223fc741f6", func := "example.com/chainwright/chainwright/zzlaws_pkg_kube_g1.FnLabelChecksClosure", spec := "fnLabelChecksClosure", apart := false }
def FnLabelChecksClosureSaid : Prop := fnLabelChecksClosureRow.holds Try.pinned (OpenSpec.ofChange fnLabelChecksClosureSpec)

/-- ITS FALSE NEIGHBOUR: 'it returns false'. Refute it at one input. -/
def fnLabelChecksClosureWrong : ChangeSpec := { name := "fnLabelChecksClosure", fn := fun _ => fun
  | [d1, d2, d3] => { results := [.lit (.bool false)], args := [d1, d2, d3] }
  | _ => none }
def FnLabelChecksClosureWrongFalsely : Prop := fnLabelChecksClosureRow.holds Try.pinned (OpenSpec.ofChange fnLabelChecksClosureWrong)

/-- 'zzlaws_pkg_kube_g1.FnEqualFoldCaseBlind': WHATEVER THE INPUT: true; the input reads as it did. -/
def fnEqualFoldCaseBlindSpec : ChangeSpec := { name := "fnEqualFoldCaseBlind", fn := fun _ => fun
  | [d1, d2] => { results := [.lit (.bool true)], args := [d1, d2] }
  | _ => none }
def fnEqualFoldCaseBlindRow : OpenClaim := { program := "qxb6001662a", sum := "c4a4f3a238d47980e745c24e4cf66f35cc47dbef431ad46753429a223fc741f6", func := "example.com/chainwright/chainwright/zzlaws_pkg_kube_g1.FnEqualFoldCaseBlind", spec := "fnEqualFoldCaseBlind", apart := false }
def FnEqualFoldCaseBlindSaid : Prop := fnEqualFoldCaseBlindRow.holds Try.pinned (OpenSpec.ofChange fnEqualFoldCaseBlindSpec)

/-- ITS FALSE NEIGHBOUR: 'it returns false'. Refute it at one input. -/
def fnEqualFoldCaseBlindWrong : ChangeSpec := { name := "fnEqualFoldCaseBlind", fn := fun _ => fun
  | [d1, d2] => { results := [.lit (.bool false)], args := [d1, d2] }
  | _ => none }
def FnEqualFoldCaseBlindWrongFalsely : Prop := fnEqualFoldCaseBlindRow.holds Try.pinned (OpenSpec.ofChange fnEqualFoldCaseBlindWrong)

/-- 'zzlaws_pkg_kube_g1.FnFieldFindsFieldByASCIICase': WHATEVER THE INPUT: true; the input reads as it did. -/
def fnFieldFindsFieldByASCIICaseSpec : ChangeSpec := { name := "fnFieldFindsFieldByASCIICase", fn := fun _ => fun
  | [d1, d2] => { results := [.lit (.bool true)], args := [d1, d2] }
  | _ => none }
def fnFieldFindsFieldByASCIICaseRow : OpenClaim := { program := "qxb6001662a", sum := "c4a4f3a238d47980e745c24e4cf66f35cc47dbef431ad46753429a223fc741f6", func := "example.com/chainwright/chainwright/zzlaws_pkg_kube_g1.FnFieldFindsFieldByASCIICase", spec := "fnFieldFindsFieldByASCIICase", apart := false }
def FnFieldFindsFieldByASCIICaseSaid : Prop := fnFieldFindsFieldByASCIICaseRow.holds Try.pinned (OpenSpec.ofChange fnFieldFindsFieldByASCIICaseSpec)

/-- ITS FALSE NEIGHBOUR: 'it returns false'. Refute it at one input. -/
def fnFieldFindsFieldByASCIICaseWrong : ChangeSpec := { name := "fnFieldFindsFieldByASCIICase", fn := fun _ => fun
  | [d1, d2] => { results := [.lit (.bool false)], args := [d1, d2] }
  | _ => none }
def FnFieldFindsFieldByASCIICaseWrongFalsely : Prop := fnFieldFindsFieldByASCIICaseRow.holds Try.pinned (OpenSpec.ofChange fnFieldFindsFieldByASCIICaseWrong)

/-- 'zzlaws_pkg_kube_g1.FnNumberMatchesJSONGrammar': WHATEVER THE INPUT: true; the input reads as it did. -/
def fnNumberMatchesJSONGrammarSpec : ChangeSpec := { name := "fnNumberMatchesJSONGrammar", fn := fun _ => fun
  | [d1, d2] => { results := [.lit (.bool true)], args := [d1, d2] }
  | _ => none }
def fnNumberMatchesJSONGrammarRow : OpenClaim := { program := "qxb6001662a", sum := "c4a4f3a238d47980e745c24e4cf66f35cc47dbef431ad46753429a223fc741f6", func := "example.com/chainwright/chainwright/zzlaws_pkg_kube_g1.FnNumberMatchesJSONGrammar", spec := "fnNumberMatchesJSONGrammar", apart := false }
def FnNumberMatchesJSONGrammarSaid : Prop := fnNumberMatchesJSONGrammarRow.holds Try.pinned (OpenSpec.ofChange fnNumberMatchesJSONGrammarSpec)

/-- ITS FALSE NEIGHBOUR: 'it returns false'. Refute it at one input. -/
def fnNumberMatchesJSONGrammarWrong : ChangeSpec := { name := "fnNumberMatchesJSONGrammar", fn := fun _ => fun
  | [d1, d2] => { results := [.lit (.bool false)], args := [d1, d2] }
  | _ => none }
def FnNumberMatchesJSONGrammarWrongFalsely : Prop := fnNumberMatchesJSONGrammarRow.holds Try.pinned (OpenSpec.ofChange fnNumberMatchesJSONGrammarWrong)

/-- 'zzlaws_pkg_kube_g1.FnDigitsRunConsistent': WHATEVER THE INPUT: true; the input reads as it did. -/
def fnDigitsRunConsistentSpec : ChangeSpec := { name := "fnDigitsRunConsistent", fn := fun _ => fun
  | [d1, d2] => { results := [.lit (.bool true)], args := [d1, d2] }
  | _ => none }
def fnDigitsRunConsistentRow : OpenClaim := { program := "qxb6001662a", sum := "c4a4f3a238d47980e745c24e4cf66f35cc47dbef431ad46753429a223fc741f6", func := "example.com/chainwright/chainwright/zzlaws_pkg_kube_g1.FnDigitsRunConsistent", spec := "fnDigitsRunConsistent", apart := false }
def FnDigitsRunConsistentSaid : Prop := fnDigitsRunConsistentRow.holds Try.pinned (OpenSpec.ofChange fnDigitsRunConsistentSpec)

/-- ITS FALSE NEIGHBOUR: 'it returns false'. Refute it at one input. -/
def fnDigitsRunConsistentWrong : ChangeSpec := { name := "fnDigitsRunConsistent", fn := fun _ => fun
  | [d1, d2] => { results := [.lit (.bool false)], args := [d1, d2] }
  | _ => none }
def FnDigitsRunConsistentWrongFalsely : Prop := fnDigitsRunConsistentRow.holds Try.pinned (OpenSpec.ofChange fnDigitsRunConsistentWrong)

/-- 'zzlaws_pkg_ruleset_g1.FnSetEditSplitPartitionsBySet': WHATEVER THE INPUT: true; the input reads as it did. -/
def fnSetEditSplitPartitionsBySetSpec : ChangeSpec := { name := "fnSetEditSplitPartitionsBySet", fn := fun _ => fun
  | [d1, d2] => { results := [.lit (.bool true)], args := [d1, d2] }
  | _ => none }
def fnSetEditSplitPartitionsBySetRow : OpenClaim := { program := "qxb6001662a", sum := "c4a4f3a238d47980e745c24e4cf66f35cc47dbef431ad46753429a223fc741f6", func := "example.com/chainwright/chainwright/zzlaws_pkg_ruleset_g1.FnSetEditSplitPartitionsBySet", spec := "fnSetEditSplitPartitionsBySet", apart := false }
def FnSetEditSplitPartitionsBySetSaid : Prop := fnSetEditSplitPartitionsBySetRow.holds Try.pinned (OpenSpec.ofChange fnSetEditSplitPartitionsBySetSpec)

/-- ITS FALSE NEIGHBOUR: 'it returns false'. Refute it at one input. -/
def fnSetEditSplitPartitionsBySetWrong : ChangeSpec := { name := "fnSetEditSplitPartitionsBySet", fn := fun _ => fun
  | [d1, d2] => { results := [.lit (.bool false)], args := [d1, d2] }
  | _ => none }
def FnSetEditSplitPartitionsBySetWrongFalsely : Prop := fnSetEditSplitPartitionsBySetRow.holds Try.pinned (OpenSpec.ofChange fnSetEditSplitPartitionsBySetWrong)

/-- 'zzlaws_pkg_ruleset_g1.FnBracesConcatAndMirror': WHATEVER THE INPUT: true; the input reads as it did. -/
def fnBracesConcatAndMirrorSpec : ChangeSpec := { name := "fnBracesConcatAndMirror", fn := fun _ => fun
  | [d1, d2] => { results := [.lit (.bool true)], args := [d1, d2] }
  | _ => none }
def fnBracesConcatAndMirrorRow : OpenClaim := { program := "qxb6001662a", sum := "c4a4f3a238d47980e745c24e4cf66f35cc47dbef431ad46753429a223fc741f6", func := "example.com/chainwright/chainwright/zzlaws_pkg_ruleset_g1.FnBracesConcatAndMirror", spec := "fnBracesConcatAndMirror", apart := false }
def FnBracesConcatAndMirrorSaid : Prop := fnBracesConcatAndMirrorRow.holds Try.pinned (OpenSpec.ofChange fnBracesConcatAndMirrorSpec)

/-- ITS FALSE NEIGHBOUR: 'it returns false'. Refute it at one input. -/
def fnBracesConcatAndMirrorWrong : ChangeSpec := { name := "fnBracesConcatAndMirror", fn := fun _ => fun
  | [d1, d2] => { results := [.lit (.bool false)], args := [d1, d2] }
  | _ => none }
def FnBracesConcatAndMirrorWrongFalsely : Prop := fnBracesConcatAndMirrorRow.holds Try.pinned (OpenSpec.ofChange fnBracesConcatAndMirrorWrong)

/-- 'zzlaws_pkg_ruleset_g1.FnAddNameHoldsExactlyThePairs': WHATEVER THE INPUT: true; the input reads as it did. -/
def fnAddNameHoldsExactlyThePairsSpec : ChangeSpec := { name := "fnAddNameHoldsExactlyThePairs", fn := fun _ => fun
  | [d1, d2, d3, d4] => { results := [.lit (.bool true)], args := [d1, d2, d3, d4] }
  | _ => none }
def fnAddNameHoldsExactlyThePairsRow : OpenClaim := { program := "qxb6001662a", sum := "c4a4f3a238d47980e745c24e4cf66f35cc47dbef431ad46753429a223fc741f6", func := "example.com/chainwright/chainwright/zzlaws_pkg_ruleset_g1.FnAddNameHoldsExactlyThePairs", spec := "fnAddNameHoldsExactlyThePairs", apart := false }
def FnAddNameHoldsExactlyThePairsSaid : Prop := fnAddNameHoldsExactlyThePairsRow.holds Try.pinned (OpenSpec.ofChange fnAddNameHoldsExactlyThePairsSpec)

/-- ITS FALSE NEIGHBOUR: 'it returns false'. Refute it at one input. -/
def fnAddNameHoldsExactlyThePairsWrong : ChangeSpec := { name := "fnAddNameHoldsExactlyThePairs", fn := fun _ => fun
  | [d1, d2, d3, d4] => { results := [.lit (.bool false)], args := [d1, d2, d3, d4] }
  | _ => none }
def FnAddNameHoldsExactlyThePairsWrongFalsely : Prop := fnAddNameHoldsExactlyThePairsRow.holds Try.pinned (OpenSpec.ofChange fnAddNameHoldsExactlyThePairsWrong)

end Rows
end Go.Proofs.Qxb6001662a
