/-
  'Rows.FnSetEditSplitPartitionsBySetSaid': the frame typed after the shell that the seat gives for function 4; the walks lie in Qxb6001662aMain8, Qxb6001662aSplit and what they import.
-/
import Derived.Test.Qxb6001662aRows
import Derived.WalkKit
import Derived.ProofKit
import Derived.OpenShut
import Derived.ShutString
import Derived.ChangeOld
import Derived.Below
import Derived.Test.Qxb6001662aMain8
import Derived.Test.Qxb6001662aOpen8
import Derived.Test.Qxb6001662aFacts8
namespace Go.Proofs.Qxb6001662a.fnSetEditSplitPartitionsBySet
open Go.ChangeShapes Go.WideShapes Go.ChangeAt Go.RowKit
open Go.Proofs.Qxb6001662a.Wl
set_option linter.unusedVariables false

theorem own : ownKnob Try.prog.godebug = none := by kernel_rfl
theorem laidOut : laidOutB Try.prog = true := by kernel_rfl

set_option maxRecDepth 100000 in
theorem lifted (os : Os) (started : os.Started) (H : Type) (enc : TypeId × Value → H) :
    ReturnsInHanded {} Try.checked os 8 .any (Rows.fnSetEditSplitPartitionsBySetSpec.pre6 enc Try.prog Try.f8 Rows.fnSetEditSplitPartitionsBySetRow.domain false) (Rows.fnSetEditSplitPartitionsBySetSpec.post enc Try.prog Try.f8 false true false false) := by
  refine returnsInHanded_of_change (C := Try.checked) own started (by kernel_rfl) Try.func8
    (ChangeSpec.witness6 (enc := enc) (C := Try.checked) false ⟨#[], #[.slice none 0 0, .int .i64 0], []⟩ 8 (by kernel_rfl) (by kernel_rfl) (by kernel_rfl) (by kernel_rfl)) ?_
  intro W base args ds gs before hval0 hW hcnd _
  have hval : ∀ (j : Nat) t v, Try.f8.params[j]? = some t → args[j]? = some v → Value.okWide Try.prog W .any base t v := hval0
  have hW' := hW
  obtain ⟨p, q, hA0, hV, rfl, hfz, hnd⟩ := hW
  have hA : DataW.TrodAll enc Try.prog W 0 (fun _ => true) true Try.f8.params.toList args.toList ds p := hA0
  rw [Try.params8] at hA hval
  obtain ⟨v0, vs0, d0, ds0, p0, q0, hargs, rfl, rfl, h0, r0⟩ := trodAll_cons hA
  obtain ⟨v1, vs1, d1, ds1, p1, q1, rfl, rfl, rfl, h1, r1⟩ := trodAll_cons r0
  obtain ⟨rfl, rfl, rfl⟩ := trodAll_nil r1
  obtain rfl : args = #[v0, v1] := by cases args; simp_all
  obtain ⟨rfl, rfl⟩ := trodVars_none hV
  obtain ⟨aO, n, cO, rfl⟩ := okWide_slice Try.underlying30 (hval 0 30 v0 rfl rfl)
  obtain ⟨nn, rfl, rfl, rfl, wn⟩ := open_int Try.underlying3 (hval 1 3 v1 rfl rfl) h1
  have k0 := h0
  have lt0 : ∀ x ∈ p0, x.block < W.heap.size := by obtain ⟨m, hm⟩ := k0; exact DataW.trod_lt m _ _ _ hm
  obtain ⟨fuel0, hf0⟩ := h0
  obtain ⟨aO', n', cO', O, e0, hnO, hcO, hO⟩ := matrix_of_trod (v := .slice aO n cO) (by simpa [Value.cells] using hf0)
  cases e0
  clear hA0 hval0
  refine (fn8_main aO n cO O nn W (Nat.le_trans hnO hcO) hO).mono fun e W' ⟨he, bel⟩ => ?_
  subst he
  exact ⟨_, rfl, _, _, _, [], _, [], hW', trodAll_mk1 (shut_bool Try.underlying4 _), (trodAll_cons_mk (Below.trod laidOut (by kernel_rfl) (of_decide_eq_true (by kernel_rfl)) k0 bel lt0) (trodAll_cons_mk (shut_int Try.underlying3 wn) trodAll_mk0)), rfl, bel.frame _, fun h => by cases h⟩

theorem over : Rows.fnSetEditSplitPartitionsBySetRow.holds Try.pinned (OpenSpec.ofChange Rows.fnSetEditSplitPartitionsBySetSpec) :=
  OpenClaim.holds_of_wide 8 Try.f8 rfl rfl rfl rfl rfl rfl rfl ⟨rfl, rfl, rfl, rfl, rfl⟩ rfl rfl rfl rfl rfl facts8.named Try.func8 facts8.all facts8.inst facts8.wrap
    (fun os started H enc _ => lifted os started H enc)

/-- ████ THE STATEMENT ████ -/
theorem proved : Rows.FnSetEditSplitPartitionsBySetSaid := over
#print axioms proved
end Go.Proofs.Qxb6001662a.fnSetEditSplitPartitionsBySet
