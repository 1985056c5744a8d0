/-
  'Rows.FnAddKeyMatchesSetModelSaid': the frame typed after the shells that this seat gives; the walks lie in Qxb6603095aSet2 and what it imports.
-/
import Derived.Test.Qxb6603095aRows
import Derived.WalkKit
import Derived.ProofKit
import Derived.OpenShut
import Derived.ShutString
import Derived.ChangeOld
import Derived.Below
import Derived.Test.Qxb6603095aSet2
import Derived.Test.Qxb6603095aOpen
namespace Go.Proofs.Qxb6603095a.fnAddKeyMatchesSetModel
open Go.ChangeShapes Go.WideShapes Go.ChangeAt Go.RowKit
open Go.Proofs.Qxb6603095a.Wl
set_option linter.unusedVariables false

theorem own : ownKnob Try.prog.godebug = none := by kernel_rfl
theorem laidOut : laidOutB Try.prog = true := by kernel_rfl

theorem walk (a0 : Bool) (a1 a2 : Int) (sm : Option Nat) (L : Nat) (aK : Option Addr) (n cK : Nat) (K : List (List Int)) (ak : Option Addr) (mk ck : Nat) (Z : List Int) (w : World)
    (hL : L ≤ maxLen) (hlen : ∀ wx, Below w.heap.size w wx → ∀ ty, (Builtin.len_ #[24] ty #[.map sm]).run Try.prog wx = .ok (.int .i64 (L : Int)) wx)
    (hlook : ∀ wx, Below w.heap.size w wx → ∀ x, Bytes x → x.length ≤ maxLen → ∃ b, (Instr.lookup 24 (.map sm) (.string (strOfNums x)) false).run Try.prog wx = .ok (.bool b) wx)
    (hnc : n ≤ cK) (hcK : cK ≤ maxLen) (hK : ListIn w w.heap.size aK n K) (hmc : mk ≤ ck) (hck : ck ≤ maxLen) (hZ : TextIn w w.heap.size ak mk Z) :
    Calls Try.prog 5 #[.bool a0, .int .i64 a1, .int .i64 a2, .map sm, .slice aK n cK, .slice ak mk ck] w fun e w' => e = .returned (.bool true) ∧ Below w.heap.size w w' := by
  by_cases h : n ≤ 65536 ∧ mk ≤ 1048576 ∧ L ≤ 65536
  · exact fn5_main a0 a1 a2 sm aK n cK K ak mk ck Z w L hK hnc h.1 hZ h.2.1 h.2.2 hlen hlook
  · exact (fn5_short a0 a1 a2 sm aK n cK ak mk ck w L (Nat.le_trans hnc hcK) (Nat.le_trans hmc hck) hL (hlen w (Below.refl _ _)) h).mono fun e w' ⟨he, hw⟩ => ⟨he, by rw [hw]; exact Below.refl _ _⟩

set_option maxRecDepth 100000 in
theorem lifted (os : Os) (started : os.Started) (H : Type) (enc : TypeId × Value → H) :
    ReturnsInHanded {} Try.checked os 5 .any (Rows.fnAddKeyMatchesSetModelSpec.pre6 enc Try.prog Try.f5 Rows.fnAddKeyMatchesSetModelRow.domain false) (Rows.fnAddKeyMatchesSetModelSpec.post enc Try.prog Try.f5 false true false false) := by
  refine returnsInHanded_of_change (C := Try.checked) own started (by kernel_rfl) Try.func5
    (ChangeSpec.witness6 (enc := enc) (C := Try.checked) false ⟨#[], #[.bool false, .int .i64 0, .int .i64 0, .map none, .slice none 0 0, .slice none 0 0], []⟩ 8 (by kernel_rfl) (by kernel_rfl) (by kernel_rfl) (by kernel_rfl)) ?_
  intro W base args ds gs before hval0 hW hcnd _
  have hval : ∀ (j : Nat) t v, Try.f5.params[j]? = some t → args[j]? = some v → Value.okWide Try.prog W .any base t v := hval0
  have hW' := hW
  obtain ⟨p, q, hA0, hV, rfl, hfz, hnd⟩ := hW
  have hA : DataW.TrodAll enc Try.prog W 0 (fun _ => true) true Try.f5.params.toList args.toList ds p := hA0
  rw [Try.params5] at hA hval
  obtain ⟨v0, vs0, d0, ds0, p0, q0, hargs, rfl, rfl, h0, r0⟩ := trodAll_cons hA
  obtain ⟨v1, vs1, d1, ds1, p1, q1, rfl, rfl, rfl, h1, r1⟩ := trodAll_cons r0
  obtain ⟨v2, vs2, d2, ds2, p2, q2, rfl, rfl, rfl, h2, r2⟩ := trodAll_cons r1
  obtain ⟨v3, vs3, d3, ds3, p3, q3, rfl, rfl, rfl, h3, r3⟩ := trodAll_cons r2
  obtain ⟨v4, vs4, d4, ds4, p4, q4, rfl, rfl, rfl, h4, r4⟩ := trodAll_cons r3
  obtain ⟨v5, vs5, d5, ds5, p5, q5, rfl, rfl, rfl, h5, r5⟩ := trodAll_cons r4
  obtain ⟨rfl, rfl, rfl⟩ := trodAll_nil r5
  obtain rfl : args = #[v0, v1, v2, v3, v4, v5] := by cases args; simp_all
  obtain ⟨rfl, rfl⟩ := trodVars_none hV
  obtain ⟨a0, rfl, rfl, rfl⟩ := open_bool Try.underlying4 (hval 0 4 v0 rfl rfl) h0
  obtain ⟨a1, rfl, rfl, rfl, w1⟩ := open_int Try.underlying3 (hval 1 3 v1 rfl rfl) h1
  obtain ⟨a2, rfl, rfl, rfl, w2⟩ := open_int Try.underlying3 (hval 2 3 v2 rfl rfl) h2
  obtain ⟨sm0, rfl⟩ := okWide_map Try.underlying24 (hval 3 24 v3 rfl rfl)
  obtain ⟨aK, n, cK, rfl⟩ := okWide_slice Try.underlying25 (hval 4 25 v4 rfl rfl)
  obtain ⟨ak, mk, ck, rfl⟩ := okWide_slice Try.underlying22 (hval 5 22 v5 rfl rfl)
  have k3 := h3
  have k4 := h4
  have k5 := h5
  have lt3 : ∀ x ∈ p3, x.block < W.heap.size := by obtain ⟨m, hm⟩ := k3; exact DataW.trod_lt m _ _ _ hm
  have lt4 : ∀ x ∈ p4, x.block < W.heap.size := by obtain ⟨m, hm⟩ := k4; exact DataW.trod_lt m _ _ _ hm
  have lt5 : ∀ x ∈ p5, x.block < W.heap.size := by obtain ⟨m, hm⟩ := k5; exact DataW.trod_lt m _ _ _ hm
  obtain ⟨fuel3, hf3⟩ := h3
  obtain ⟨fuel4, hf4⟩ := h4
  obtain ⟨fuel5, hf5⟩ := h5
  obtain ⟨sm, L, e3, hL, hlen, hlook⟩ := map_of_trod (v := .map sm0) (by simpa [Value.cells] using hf3)
  cases e3
  obtain ⟨aK', n', cK', K, e4, hnc, hcK, hK⟩ := list_of_trod (v := .slice aK n cK) (by simpa [Value.cells] using hf4)
  cases e4
  obtain ⟨ak', mk', ck', Z, e5, hmc, hck, hZ⟩ := text_of_trod (v := .slice ak mk ck) (by simpa [Value.cells] using hf5)
  cases e5
  clear hA0 hval0
  refine (walk a0 a1 a2 sm0 L aK n cK K ak mk ck Z W hL hlen hlook hnc hcK hK hmc hck hZ).mono fun e W' ⟨he, bel⟩ => ?_
  subst he
  exact ⟨_, rfl, _, _, _, [], _, [], hW', trodAll_mk1 (shut_bool Try.underlying4 _), (trodAll_cons_mk (shut_bool Try.underlying4 _) (trodAll_cons_mk (shut_int Try.underlying3 w1) (trodAll_cons_mk (shut_int Try.underlying3 w2) (trodAll_cons_mk (Below.trod laidOut (by kernel_rfl) (of_decide_eq_true (by kernel_rfl)) k3 bel lt3) (trodAll_cons_mk (Below.trod laidOut (by kernel_rfl) (of_decide_eq_true (by kernel_rfl)) k4 bel lt4) (trodAll_cons_mk (Below.trod laidOut (by kernel_rfl) (of_decide_eq_true (by kernel_rfl)) k5 bel lt5) trodAll_mk0)))))), rfl, bel.frame _, fun h => by cases h⟩

theorem over : Rows.fnAddKeyMatchesSetModelRow.holds Try.pinned (OpenSpec.ofChange Rows.fnAddKeyMatchesSetModelSpec) :=
  OpenClaim.holds_of_wide 5 Try.f5 rfl rfl rfl rfl rfl rfl rfl ⟨rfl, rfl, rfl, rfl, rfl⟩ rfl rfl rfl rfl rfl (by kernel_rfl) Try.func5 (by kernel_rfl)
    (of_decide_eq_true (by kernel_rfl)) (by unfold Func.isWrapper; first | (rw [if_pos (by decide +kernel)]; kernel_rfl) | (rw [if_neg (by decide +kernel)]; exact ⟨rfl, rfl⟩))
    (fun os started H enc _ => lifted os started H enc)

/-- ████ THE STATEMENT ████ -/
theorem proved : Rows.FnAddKeyMatchesSetModelSaid := over
#print axioms proved
end Go.Proofs.Qxb6603095a.fnAddKeyMatchesSetModel
