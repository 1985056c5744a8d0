import Derived.Test.Qxb6603095aFlags
import Derived.Maps.Own
import Derived.Maps.OwnOps
import Derived.Maps.OwnSet
import Derived.Maps.Views
namespace Go.Proofs.Qxb6603095a.Wl
open Go.RowKit Go.Maps Go.WideMaps
open Go.Proofs.Qxb6603095a.Pl Go.Proofs.Qxb6603095a.Bs
set_option linter.unusedVariables false

/-! ### sets of byte strings: map[string]bool whose entries are all true -/
def kl (Z : List Int) : Lit := .string (Z.map fun n => UInt8.ofNat n.toNat)
def Bytes (Z : List Int) : Prop := ∀ i : Nat, 0 ≤ Z[i]?.getD 0 ∧ Z[i]?.getD 0 ≤ 255
theorem law : Keyed Try.prog 9 := string_keyed Try.underlying9
theorem zero4 (w : World) : (zeroValue 4).run Try.prog w = .ok (.bool false) w := by kernel_rfl
theorem isKey_kl (Z : List Int) : WideAt.IsKeyLit (kl Z) := trivial
theorem keyOf_kl (Z : List Int) (h : Z.length ≤ maxLen) : keyOf Try.prog 9 (.string (strOfNums Z)) = some (kl Z) := keyOf_string_mk Try.underlying9 (by rw [strOfNums_size]; exact h)

theorem kl_inj (X Y : List Int) (hX : Bytes X) (hY : Bytes Y) (h : kl X = kl Y) : X = Y := by
  unfold kl at h
  rw [Lit.string.injEq] at h
  have hl : X.length = Y.length := by have := congrArg List.length h; simpa using this
  apply List.ext_getElem hl
  intro i h1 h2
  have e : (X.map fun n => UInt8.ofNat n.toNat)[i]? = (Y.map fun n => UInt8.ofNat n.toNat)[i]? := by rw [h]
  rw [List.getElem?_map, List.getElem?_map, List.getElem?_eq_getElem h1, List.getElem?_eq_getElem h2] at e
  simp at e
  have b1 := hX i
  have b2 := hY i
  rw [List.getElem?_eq_getElem h1] at b1
  rw [List.getElem?_eq_getElem h2] at b2
  simp at b1 b2
  have e2 := congrArg UInt8.toNat e
  simp [UInt8.toNat_ofNat'] at e2
  omega

def tru : DataW Unit := .lit (.bool true)
def setD (S : List (List Int)) : DataW Unit := setOf tru (S.map kl)
theorem setD_snoc (S : List (List Int)) (x : List Int) : setD (S ++ [x]) = (setD S).put (kl x) tru := by
  unfold setD; rw [List.map_append]; exact setOf_snoc _ _ _
theorem setD_keys (S : List (List Int)) : ∀ l ∈ S.map kl, WideAt.IsKeyLit l := by
  intro l hl
  rw [List.mem_map] at hl
  obtain ⟨z, _, rfl⟩ := hl
  exact isKey_kl z
theorem setD_tidy (S : List (List Int)) : Tidy (setD S) := tidy_setOf _ _ (setD_keys S)
theorem same_kl (X Y : List Int) (hX : Bytes X) (hY : Bytes Y) : (kl X).sameKey (kl Y) = decide (X = Y) := by
  by_cases h : X = Y
  · subst h; rw [decide_eq_true rfl]; simp [kl, Lit.sameKey]
  · rw [decide_eq_false h]; exact sameKey_ne (fun e => h (kl_inj X Y hX hY e))
theorem setD_has (S : List (List Int)) (hS : ∀ z ∈ S, Bytes z) (x : List Int) (hx : Bytes x) : Maps.has (setD S) (kl x) = S.contains x := by
  unfold setD
  rw [has_setOf _ _ _ (setD_keys S), List.any_map, Bool.eq_iff_iff, List.any_eq_true, List.contains_iff_mem]
  constructor
  · rintro ⟨y, hy, e⟩
    simp only [Function.comp_apply, same_kl y x (hS y hy) hx, decide_eq_true_eq] at e
    exact e ▸ hy
  · intro h
    exact ⟨x, h, by simp only [Function.comp_apply, same_kl x x hx hx]; simp⟩
theorem setD_size (S : List (List Int)) (hS : ∀ z ∈ S, Bytes z) : Maps.size (setD S) = nDiff S := by
  suffices h : ∀ (n : Nat) (S : List (List Int)), S.length = n → (∀ z ∈ S, Bytes z) → Maps.size (setD S) = nDiff S from h _ S rfl hS
  intro n
  induction n with
  | zero =>
    intro S hl _
    have : S = [] := List.eq_nil_of_length_eq_zero hl
    subst this; rfl
  | succ n ih =>
    intro S hl hS
    rcases List.eq_nil_or_concat S with h | ⟨S', x, h⟩
    · subst h; simp at hl
    · rw [List.concat_eq_append] at h
      subst h
      have hS' : ∀ z ∈ S', Bytes z := fun z hz => hS z (by simp [hz])
      rw [setD_snoc, size_put (setD_tidy S'), setD_has S' hS' x (hS x (by simp)), nDiff_snoc, ih S' (by simpa using hl) hS']
      cases S'.contains x <;> rfl
theorem setD_at (S : List (List Int)) (hS : ∀ z ∈ S, Bytes z) (x : List Int) (hx : Bytes x) : (setD S).atKey (kl x) (.lit (.bool false)) = .lit (.bool (S.contains x)) := by
  suffices h : ∀ (n : Nat) (S : List (List Int)), S.length = n → (∀ z ∈ S, Bytes z) → (setD S).atKey (kl x) (.lit (.bool false)) = .lit (.bool (S.contains x)) from h _ S rfl hS
  intro n
  induction n with
  | zero =>
    intro S hl _
    have : S = [] := List.eq_nil_of_length_eq_zero hl
    subst this; rfl
  | succ n ih =>
    intro S hl hS
    rcases List.eq_nil_or_concat S with h | ⟨S', y, h⟩
    · subst h; simp at hl
    · rw [List.concat_eq_append] at h
      subst h
      have hS' : ∀ z ∈ S', Bytes z := fun z hz => hS z (by simp [hz])
      rw [setD_snoc]
      by_cases e : x = y
      · subst e
        rw [atKey_put_same (setD_tidy S').isMap (isKey_kl x)]
        simp [tru]
      · rw [atKey_put_other (fun h => e (kl_inj x y hx (hS y (by simp)) h)), ih S' (by simpa using hl) hS']
        congr 2
        rw [Bool.eq_iff_iff]
        simp [e]

/-- block b is the set S -/
def SetIs (w : World) (b : Nat) (S : List (List Int)) : Prop := w.ownsMap (H := Unit) Try.prog 9 (plainElem Try.prog 4) b S.length (setD S)

theorem plainElem_bool_inv {v : Value} {z : DataW Unit × List MemPlace} (h : plainElem Try.prog 4 v = some z) : ∃ x, v = .bool x ∧ z = (.lit (.bool x), []) := by
  unfold plainElem at h
  rw [Try.underlying4] at h
  cases v <;> simp at h
  exact ⟨_, rfl, h.symm⟩

theorem SetIs.look {w : World} {b : Nat} {S : List (List Int)} (h : SetIs w b S) (hS : ∀ z ∈ S, Bytes z) (x : List Int) (hx : Bytes x) (hl : x.length ≤ maxLen) :
    (Instr.lookup 24 (.map (some b)) (.string (strOfNums x)) false).run Try.prog w = .ok (.bool (S.contains x)) w := by
  obtain ⟨v, ps, hrun, hv⟩ := World.ownsMap.lookup h law Try.underlying24 (zero4 w) (plainElem_bool Try.underlying4 false) (keyOf_kl x hl)
  rw [setD_at S hS x hx] at hv
  obtain ⟨c, rfl, hc⟩ := plainElem_bool_inv hv
  simp only [Prod.mk.injEq, DataW.lit.injEq, Lit.bool.injEq] at hc
  rw [hrun, hc.1]
theorem SetIs.len {w : World} {b : Nat} {S : List (List Int)} (h : SetIs w b S) (hS : ∀ z ∈ S, Bytes z) (ty : TypeId) :
    (Builtin.len_ #[24] ty #[.map (some b)]).run Try.prog w = .ok (.int .i64 (nDiff S : Nat)) w := by
  rw [World.ownsMap.len h Try.underlying24 ty, setD_size S hS]
theorem SetIs.put {w : World} {b : Nat} {S : List (List Int)} (h : SetIs w b S) (x : List Int) (hl : x.length ≤ maxLen) (hn : S.length < maxLen) :
    ∃ w', (Instr.mapUpdate 24 (.map (some b)) (.string (strOfNums x)) (.bool true)).run Try.prog w = .ok () w' ∧ SetIs w' b (S ++ [x]) ∧ w.grownBy w' (some b) := by
  obtain ⟨w', hrun, hown, hg⟩ := World.ownsMap.update h law Try.underlying24 hn (keyOf_kl x hl) (plainElem_bool (H := Unit) Try.underlying4 true)
  refine ⟨w', hrun, ?_, hg⟩
  unfold SetIs
  rw [setD_snoc, List.length_append]
  exact hown
theorem SetIs.made (w : World) : SetIs (w.alloc (.map #[] 0)) w.heap.size [] := World.ownsMap_made w Try.prog 9 (plainElem Try.prog 4)
theorem SetIs.of_block {w w' : World} {b : Nat} {S : List (List Int)} (h : SetIs w b S) (e : w'.heap[b]? = w.heap[b]?) : SetIs w' b S := by
  obtain ⟨es, clock, hb, F, hs, hD⟩ := h
  exact ⟨es, clock, e.trans hb, F, hs, hD⟩
theorem SetIs.lt {w : World} {b : Nat} {S : List (List Int)} (h : SetIs w b S) : b < w.heap.size := World.ownsMap.lt h
theorem SetIs.later {w w' : World} {B b : Nat} {S : List (List Int)} (h : SetIs w b S) (hb : Below B w w') (hB : b < B) : SetIs w' b S := h.of_block (hb.block b hB)
theorem SetIs.drawn {w w' : World} {b : Nat} {S : List (List Int)} (h : SetIs w b S) (hd : Drawn w w') : SetIs w' b S := h.later (hd.below w.heap.size) h.lt
end Go.Proofs.Qxb6603095a.Wl
