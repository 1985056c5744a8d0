/-
  What the row of function 4 asks of the program's text ('joinedFacts'), limb by limb: taken in one piece the kernel needs nearly the whole of the memory lid.
-/
import Derived.Test.Qxb6001662aRows
import Derived.WalkKit
import Derived.ProofKit
import Derived.JoinedOf
namespace Go.Proofs.Qxb6001662a.facts4
open Go.RowKit

theorem both {a b : Bool} (ha : a = true) (hb : b = true) : (a && b) = true := by rw [ha, hb]; rfl
theorem k1 : (Rows.fnEqualFoldCaseBlindRow.wf (OpenSpec.ofChange Rows.fnEqualFoldCaseBlindSpec)) = true := by kernel_rfl
theorem k2 : (laidOutB Try.pinned.checked.prog) = true := by kernel_rfl
theorem k3 : (mapsRowed Try.pinned.checked.prog) = true := by kernel_rfl
theorem k4 : (Try.f4.params.all (Try.pinned.checked.prog.readableRec ·)) = true := by kernel_rfl
theorem k5 : (namedTie Try.pinned.checked.prog Rows.fnEqualFoldCaseBlindRow.named Rows.fnEqualFoldCaseBlindSpec.vars) = true := by kernel_rfl
theorem k6 : ((Rows.fnEqualFoldCaseBlindRow.stops == [])) = true := by kernel_rfl
theorem k7 : ((Try.pinned.checked.prog.stops == [])) = true := by kernel_rfl
theorem k8 : ((Rows.fnEqualFoldCaseBlindRow.knobs == [])) = true := by kernel_rfl
theorem k9 : ((Try.pinned.checked.prog.stopKnobs == [])) = true := by kernel_rfl
theorem k10 : ((Rows.fnEqualFoldCaseBlindRow.inPlace == Try.pinned.checked.prog.inPlace 4)) = true := by kernel_rfl
theorem k11 : ((Rows.fnEqualFoldCaseBlindRow.unfollowed == Try.pinned.checked.prog.unfollowed 4)) = true := by kernel_rfl
theorem k12 : ((Rows.fnEqualFoldCaseBlindRow.recurses == Try.pinned.checked.prog.recurses 4)) = true := by kernel_rfl
theorem k13 : ((Rows.fnEqualFoldCaseBlindRow.named == Try.pinned.checked.prog.varsNamed 4)) = true := by kernel_rfl
theorem k14 : ((Rows.fnEqualFoldCaseBlindRow.maps == (Try.f4.params.toList ++ Rows.fnEqualFoldCaseBlindSpec.plain.varTypes Try.pinned.checked.prog).any (Try.pinned.checked.prog.mapsRec ·))) = true := by kernel_rfl
theorem k15 : ((Rows.fnEqualFoldCaseBlindRow.ifaces == (Try.f4.params.toList ++ Rows.fnEqualFoldCaseBlindSpec.plain.varTypes Try.pinned.checked.prog).any (Try.pinned.checked.prog.ifacesRec ·))) = true := by kernel_rfl
theorem k16 : ((Rows.fnEqualFoldCaseBlindRow.mapsOut == Try.pinned.checked.prog.mapsAmong Try.f4.resultTypes.toList)) = true := by kernel_rfl
theorem k17 : ((Rows.fnEqualFoldCaseBlindRow.loops == (Try.f4.params.toList ++ Rows.fnEqualFoldCaseBlindSpec.plain.varTypes Try.pinned.checked.prog).any (Try.pinned.checked.prog.loopsFrom ·))) = true := by kernel_rfl
theorem k18 : ((Rows.fnEqualFoldCaseBlindRow.wideKeys == (Try.f4.params.toList ++ Rows.fnEqualFoldCaseBlindSpec.plain.varTypes Try.pinned.checked.prog ++ Try.f4.resultTypes.toList).any (Try.pinned.checked.prog.wideKeysFrom ·))) = true := by kernel_rfl
theorem k19 : (Rows.fnEqualFoldCaseBlindSpec.vars.all (Try.pinned.checked.prog.varReadable ·)) = true := by kernel_rfl
theorem k20 : (Try.f4.resultTypes.all (fun t => Try.pinned.checked.prog.readableRec t && decide (t < Try.pinned.checked.prog.types.size))) = true := by kernel_rfl
theorem k21 : ((Rows.fnEqualFoldCaseBlindRow.ifacesOut == Try.f4.resultTypes.toList.any (Try.pinned.checked.prog.ifacesRec ·))) = true := by kernel_rfl
theorem k22 : ((Rows.fnEqualFoldCaseBlindRow.loopsOut == Try.f4.resultTypes.toList.any (Try.pinned.checked.prog.loopsFrom ·))) = true := by kernel_rfl
theorem k23 : ((Rows.fnEqualFoldCaseBlindRow.plainKeys == Try.pinned.checked.prog.plainKeys)) = true := by kernel_rfl
theorem k24 : (Rows.fnEqualFoldCaseBlindRow.shortTexts.isNone) = true := by kernel_rfl
theorem k25 : (Try.pinned.checked.prog.stopsHeard) = true := by kernel_rfl
theorem k26 : (Try.pinned.checked.prog.mayEnter) = true := by kernel_rfl
theorem k27 : ((Rows.fnEqualFoldCaseBlindRow.lifted == Try.pinned.checked.prog.liftsFinal)) = true := by kernel_rfl
theorem k28 : ((Try.pinned.checked.prog.make == some Rows.fnEqualFoldCaseBlindRow.make)) = true := by kernel_rfl
theorem k29 : ((Rows.fnEqualFoldCaseBlindRow.kinds == (if Rows.fnEqualFoldCaseBlindRow.domain.isEmpty then [] else Try.f4.params.toList.map fun t => match Try.pinned.checked.prog.underlying t with | some (.int k) => some k | _ => none))) = true := by kernel_rfl
theorem k30 : ((Rows.fnEqualFoldCaseBlindRow.pinned == Rows.fnEqualFoldCaseBlindRow.pinnedBy)) = true := by kernel_rfl
theorem k31 : ((Rows.fnEqualFoldCaseBlindRow.veiled == (Try.f4.params.toList ++ Rows.fnEqualFoldCaseBlindSpec.plain.varTypes Try.pinned.checked.prog ++ Try.f4.resultTypes.toList).any (Try.pinned.checked.prog.veiledRec ·))) = true := by kernel_rfl
theorem k32 : (Rows.fnEqualFoldCaseBlindRow.veiledFits Try.pinned.checked.prog Try.f4.params.toList (Try.f4.params.toList ++ Rows.fnEqualFoldCaseBlindSpec.plain.varTypes Try.pinned.checked.prog ++ Try.f4.resultTypes.toList)) = true := by kernel_rfl
theorem all : joinedFacts Try.pinned.checked.prog 4 Try.f4 Rows.fnEqualFoldCaseBlindSpec Rows.fnEqualFoldCaseBlindRow = true := by
  unfold joinedFacts
  exact (both (both (both (both (both (both (both (both (both (both (both (both (both (both (both (both (both (both (both (both (both (both (both (both (both (both (both (both (both (both (both k1 k2) k3) k4) k5) k6) k7) k8) k9) k10) k11) k12) k13) k14) k15) k16) k17) k18) k19) k20) k21) k22) k23) k24) k25) k26) k27) k28) k29) k30) k31) k32)
theorem named : Try.pinned.checked.prog.funcNamed Rows.fnEqualFoldCaseBlindRow.func = some 4 := by kernel_rfl
theorem inst : Try.f4.isInstance Try.pinned.checked.prog Rows.fnEqualFoldCaseBlindRow.origin Rows.fnEqualFoldCaseBlindRow.targs := of_decide_eq_true (by kernel_rfl)
theorem wrap : Try.f4.isWrapper Try.pinned.checked.prog Rows.fnEqualFoldCaseBlindRow.wrapper Rows.fnEqualFoldCaseBlindRow.mainSum := by unfold Func.isWrapper; first | (rw [if_pos (by decide +kernel)]; kernel_rfl) | (rw [if_neg (by decide +kernel)]; exact ⟨rfl, rfl⟩)
end Go.Proofs.Qxb6001662a.facts4
