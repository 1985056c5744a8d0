import Derived.Test.Qxb6001662aPairs
import Derived.Maps.Own
import Derived.Maps.OwnOps
import Derived.Maps.OwnSet
import Derived.Maps.Views
namespace Go.Proofs.Qxb6001662a.Wl
open Go.RowKit Go.Maps Go.WideMaps
open Go.Proofs.Qxb6001662a.Bs
set_option linter.unusedVariables false

def kl (s : ByteArray) : Lit := .string s.data.toList
theorem law : Keyed Try.prog 9 := string_keyed Try.underlying9
theorem zero4 (w : World) : (zeroValue 4).run Try.prog w = .ok (.bool false) w := by kernel_rfl
theorem zero61 (w : World) : (zeroValue 61).run Try.prog w = .ok (.map none) w := by kernel_rfl
theorem isKey_kl (s : ByteArray) : WideAt.IsKeyLit (kl s) := trivial
theorem keyOf_kl (s : ByteArray) (h : s.size ≤ maxLen) : keyOf Try.prog 9 (.string s) = some (kl s) := keyOf_string_mk Try.underlying9 h
theorem kl_inj (x y : ByteArray) (h : kl x = kl y) : x = y := by
  unfold kl at h
  rw [Lit.string.injEq] at h
  cases x; cases y
  congr
  exact Array.toList_inj.1 h

/-! ### a map[string]bool whose entries are all true, by what it holds -/
def InSet (w : World) (b N : Nat) (f : ByteArray → Bool) (len : Nat) : Prop :=
  ∃ D : DataW Unit, w.ownsMap Try.prog 9 (plainElem Try.prog 4) b N D ∧ (∀ x, Maps.has D (kl x) = f x) ∧ (∀ x, D.atKey (kl x) (.lit (.bool false)) = .lit (.bool (f x))) ∧ Maps.size D = len
theorem plainElem_bool_inv {v : Value} {z : DataW Unit × List MemPlace} (h : plainElem Try.prog 4 v = some z) : ∃ x, v = .bool x ∧ z = (.lit (.bool x), []) := by
  unfold plainElem at h
  rw [Try.underlying4] at h
  cases v <;> simp at h
  exact ⟨_, rfl, h.symm⟩
theorem InSet.look {w : World} {b N len : Nat} {f : ByteArray → Bool} (h : InSet w b N f len) (x : ByteArray) (hl : x.size ≤ maxLen) :
    (Instr.lookup 61 (.map (some b)) (.string x) false).run Try.prog w = .ok (.bool (f x)) w := by
  obtain ⟨D, ho, hh, ha, hs⟩ := h
  obtain ⟨v, ps, hrun, hv⟩ := World.ownsMap.lookup ho law Try.underlying61 (zero4 w) (plainElem_bool Try.underlying4 false) (keyOf_kl x hl)
  rw [ha] at hv
  obtain ⟨c, rfl, hc⟩ := plainElem_bool_inv hv
  simp only [Prod.mk.injEq, DataW.lit.injEq, Lit.bool.injEq] at hc
  rw [hrun, hc.1]
theorem InSet.len {w : World} {b N len : Nat} {f : ByteArray → Bool} (h : InSet w b N f len) (ty : TypeId) :
    (Builtin.len_ #[61] ty #[.map (some b)]).run Try.prog w = .ok (.int .i64 (len : Nat)) w := by
  obtain ⟨D, ho, hh, ha, hs⟩ := h
  rw [World.ownsMap.len ho Try.underlying61 ty, hs]
theorem InSet.put {w : World} {b N len : Nat} {f : ByteArray → Bool} (h : InSet w b N f len) (x : ByteArray) (hl : x.size ≤ maxLen) (hn : N < maxLen) :
    ∃ w', (Instr.mapUpdate 61 (.map (some b)) (.string x) (.bool true)).run Try.prog w = .ok () w' ∧ InSet w' b (N + 1) (fun y => f y || decide (y = x)) (if f x then len else len + 1) ∧ w.grownBy w' (some b) := by
  obtain ⟨D, ho, hh, ha, hs⟩ := h
  obtain ⟨w', hrun, hown, hg⟩ := World.ownsMap.update ho law Try.underlying61 hn (keyOf_kl x hl) (plainElem_bool (H := Unit) Try.underlying4 true)
  refine ⟨w', hrun, ⟨_, hown, fun y => ?_, fun y => ?_, ?_⟩, hg⟩
  · by_cases e : y = x
    · subst e; rw [has_put_same ho.isMap (isKey_kl y)]; simp
    · rw [has_put_other (fun h => e (kl_inj y x h)), hh]; simp [e]
  · by_cases e : y = x
    · subst e; rw [atKey_put_same ho.isMap (isKey_kl y)]; simp
    · rw [atKey_put_other (fun h => e (kl_inj y x h)), ha]; simp [e]
  · rw [size_put (ho.tidy law), hh, hs]
theorem InSet.made (w : World) : InSet (w.alloc (.map #[] 0)) w.heap.size 0 (fun _ => false) 0 := ⟨.map [], World.ownsMap_made w Try.prog 9 (plainElem Try.prog 4), fun _ => rfl, fun _ => rfl, rfl⟩
theorem InSet.of_block {w w' : World} {b N len : Nat} {f : ByteArray → Bool} (h : InSet w b N f len) (e : w'.heap[b]? = w.heap[b]?) : InSet w' b N f len := by
  obtain ⟨D, ⟨es, clock, hm, hr⟩, hh, ha, hs⟩ := h
  exact ⟨D, ⟨es, clock, e.trans hm, hr⟩, hh, ha, hs⟩
theorem InSet.lt {w : World} {b N len : Nat} {f : ByteArray → Bool} (h : InSet w b N f len) : b < w.heap.size := by
  obtain ⟨D, ho, _⟩ := h; exact World.ownsMap.lt ho
theorem InSet.mono {w : World} {b N N' len : Nat} {f g : ByteArray → Bool} (h : InSet w b N f len) (hN : N ≤ N') (hfg : ∀ x, f x = g x) : InSet w b N' g len := by
  obtain ⟨D, ho, hh, ha, hs⟩ := h
  exact ⟨D, ho.mono hN, fun x => by rw [hh, hfg], fun x => by rw [ha, hfg], hs⟩

/-! ### the map of maps: an inner map is read as the number of its block -/
def num (b : Option Nat) : DataW Unit := .lit (.int .i64 (match b with | none => -1 | some b => (b : Int)))
theorem num_inj (a b : Option Nat) (h : num a = num b) : a = b := by
  unfold num at h
  rw [DataW.lit.injEq, Lit.int.injEq] at h
  have h := h.2
  cases a with
  | none =>
    cases b with
    | none => rfl
    | some b => simp only at h; omega
  | some a =>
    cases b with
    | none => simp only at h; omega
    | some b => simp only at h; congr 1; omega
def Rm (v : Value) : Option (DataW Unit × List MemPlace) := match v with | .map b => some (num b, []) | _ => none
def OutMap (w : World) (M N : Nat) (β : ByteArray → Option Nat) (len : Nat) : Prop :=
  ∃ D : DataW Unit, w.ownsMap Try.prog 9 Rm M N D ∧ (∀ x, Maps.has D (kl x) = (β x).isSome) ∧ (∀ x, D.atKey (kl x) (num none) = num (β x)) ∧ Maps.size D = len
theorem OutMap.look {w : World} {M N len : Nat} {β : ByteArray → Option Nat} (h : OutMap w M N β len) (x : ByteArray) (hl : x.size ≤ maxLen) :
    (Instr.lookup 58 (.map (some M)) (.string x) false).run Try.prog w = .ok (.map (β x)) w := by
  obtain ⟨D, ho, hh, ha, hs⟩ := h
  obtain ⟨v, ps, hrun, hv⟩ := World.ownsMap.lookup ho law Try.underlying58 (zero61 w) (R := Rm) (zd := num none) (zp := []) rfl (keyOf_kl x hl)
  rw [ha] at hv
  cases v <;> simp [Rm] at hv
  rw [hrun, num_inj _ _ hv.1]
theorem OutMap.len {w : World} {M N len : Nat} {β : ByteArray → Option Nat} (h : OutMap w M N β len) (ty : TypeId) :
    (Builtin.len_ #[58] ty #[.map (some M)]).run Try.prog w = .ok (.int .i64 (len : Nat)) w := by
  obtain ⟨D, ho, hh, ha, hs⟩ := h
  rw [World.ownsMap.len ho Try.underlying58 ty, hs]
theorem OutMap.put {w : World} {M N len : Nat} {β : ByteArray → Option Nat} (h : OutMap w M N β len) (x : ByteArray) (m : Nat) (hl : x.size ≤ maxLen) (hn : N < maxLen) :
    ∃ w', (Instr.mapUpdate 58 (.map (some M)) (.string x) (.map (some m))).run Try.prog w = .ok () w' ∧ OutMap w' M (N + 1) (fun y => if y = x then some m else β y) (if (β x).isSome then len else len + 1) ∧ w.grownBy w' (some M) := by
  obtain ⟨D, ho, hh, ha, hs⟩ := h
  obtain ⟨w', hrun, hown, hg⟩ := World.ownsMap.update ho law Try.underlying58 hn (keyOf_kl x hl) (val := .map (some m)) (d := num (some m)) (ps := []) rfl
  refine ⟨w', hrun, ⟨_, hown, fun y => ?_, fun y => ?_, ?_⟩, hg⟩
  · by_cases e : y = x
    · subst e; rw [has_put_same ho.isMap (isKey_kl y)]; simp
    · rw [has_put_other (fun h => e (kl_inj y x h)), hh]; simp [e]
  · by_cases e : y = x
    · subst e; rw [atKey_put_same ho.isMap (isKey_kl y)]; simp
    · rw [atKey_put_other (fun h => e (kl_inj y x h)), ha]; simp [e]
  · rw [size_put (ho.tidy law), hh, hs]
theorem OutMap.made (w : World) : OutMap (w.alloc (.map #[] 0)) w.heap.size 0 (fun _ => none) 0 := ⟨.map [], World.ownsMap_made w Try.prog 9 Rm, fun _ => rfl, fun _ => rfl, rfl⟩
theorem OutMap.of_block {w w' : World} {M N len : Nat} {β : ByteArray → Option Nat} (h : OutMap w M N β len) (e : w'.heap[M]? = w.heap[M]?) : OutMap w' M N β len := by
  obtain ⟨D, ⟨es, clock, hm, hr⟩, hh, ha, hs⟩ := h
  exact ⟨D, ⟨es, clock, e.trans hm, hr⟩, hh, ha, hs⟩
theorem OutMap.lt {w : World} {M N len : Nat} {β : ByteArray → Option Nat} (h : OutMap w M N β len) : M < w.heap.size := by
  obtain ⟨D, ho, _⟩ := h; exact World.ownsMap.lt ho
end Go.Proofs.Qxb6001662a.Wl
