import Derived.Test.Qxb6001662aMat3
import Derived.Test.Qxb6001662aNames2
import Derived.Laws.OwnMore
import Derived.Deep.AppendLies
import Derived.Maps.AppendAt
namespace Go.Proofs.Qxb6001662a.Wl
open Go.RowKit Go.Maps Go.WideMaps
open Go.Proofs.Qxb6001662a.Bs
set_option linter.unusedVariables false

/-! ### the map from a set's name to its place -/
theorem zero3 (w : World) : (zeroValue 3).run Try.prog w = .ok (.int .i64 0) w := by kernel_rfl
def IdxMap (w : World) (M N : Nat) (f : ByteArray → Option Nat) : Prop :=
  ∃ D : DataW Unit, w.ownsMap Try.prog 9 (plainElem Try.prog 3) M N D ∧ (∀ x, Maps.has D (kl x) = (f x).isSome) ∧ (∀ x, D.atKey (kl x) (.lit (.int .i64 0)) = .lit (.int .i64 (((f x).getD 0 : Nat) : Int)))
theorem wf_i64 (n : Nat) (h : n ≤ 1048576) : (Lit.int .i64 (n : Int)).wf = true := by
  simp [Lit.wf, IntKind.min, IntKind.max, IntKind.bits, IntKind.signed]
  omega
theorem IdxMap.look {w : World} {M N : Nat} {f : ByteArray → Option Nat} (h : IdxMap w M N f) (x : ByteArray) (hl : x.size ≤ maxLen) :
    (Instr.lookup 81 (.map (some M)) (.string x) true).run Try.prog w = .ok (.tuple #[.int .i64 (((f x).getD 0 : Nat) : Int), .bool (f x).isSome]) w := by
  obtain ⟨D, ho, hh, ha⟩ := h
  obtain ⟨v, ps, hrun, hv⟩ := World.ownsMap.look_ok ho law Try.underlying81 (zero3 w) (plainElem_int Try.underlying3 (by decide)) (keyOf_kl x hl)
  rw [ha] at hv
  obtain ⟨c, rfl, hc, _⟩ := plainElem_int_inv Try.underlying3 hv
  simp only [Prod.mk.injEq, DataW.lit.injEq, Lit.int.injEq, true_and] at hc
  rw [hrun, hc.1, hh]
theorem IdxMap.put {w : World} {M N : Nat} {f : ByteArray → Option Nat} (h : IdxMap w M N f) (x : ByteArray) (k : Nat) (hl : x.size ≤ maxLen) (hn : N < maxLen) (hk : k ≤ 1048576) :
    ∃ w', (Instr.mapUpdate 81 (.map (some M)) (.string x) (.int .i64 (k : Int))).run Try.prog w = .ok () w' ∧ IdxMap w' M (N + 1) (fun y => if y = x then some k else f y) ∧ w.grownBy w' (some M) := by
  obtain ⟨D, ho, hh, ha⟩ := h
  obtain ⟨w', hrun, hown, hg⟩ := World.ownsMap.update ho law Try.underlying81 hn (keyOf_kl x hl) (plainElem_int (H := Unit) Try.underlying3 (wf_i64 k hk))
  refine ⟨w', hrun, ⟨_, hown, fun y => ?_, fun y => ?_⟩, hg⟩
  · by_cases e : y = x
    · subst e; rw [has_put_same ho.isMap (isKey_kl y)]; simp
    · rw [has_put_other (fun h => e (kl_inj y x h)), hh]; simp [e]
  · by_cases e : y = x
    · subst e; rw [atKey_put_same ho.isMap (isKey_kl y)]; simp
    · rw [atKey_put_other (fun h => e (kl_inj y x h)), ha]; simp [e]
theorem IdxMap.made (w : World) : IdxMap (w.alloc (.map #[] 0)) w.heap.size 0 (fun _ => none) := ⟨.map [], World.ownsMap_made w Try.prog 9 (plainElem Try.prog 3), fun _ => rfl, fun _ => rfl⟩
theorem IdxMap.lt {w : World} {M N : Nat} {f : ByteArray → Option Nat} (h : IdxMap w M N f) : M < w.heap.size := by
  obtain ⟨D, ho, _⟩ := h; exact World.ownsMap.lt ho
theorem IdxMap.of_block {w w' : World} {M N : Nat} {f : ByteArray → Option Nat} (h : IdxMap w M N f) (e : w'.heap[M]? = w.heap[M]?) : IdxMap w' M N f := by
  obtain ⟨D, ⟨es, clock, hm, hr⟩, hh, ha⟩ := h
  exact ⟨D, ⟨es, clock, e.trans hm, hr⟩, hh, ha⟩

/-! ### headers of commands -/
def HdL (w0 : World) (ys : List Value) (g : List (List ByteArray)) : Prop :=
  ys.length = g.length ∧ ∀ i, i < g.length → ∃ a n c, ys[i]? = some (.slice a n c) ∧ n ≤ maxLen ∧ WordsIn w0 w0.heap.size a n (g[i]?.getD [])
theorem HdL.nil (w0 : World) : HdL w0 [] [] := ⟨rfl, fun i h => absurd h (by simp)⟩
theorem HdL.append {w0 : World} {ys zs : List Value} {g h : List (List ByteArray)} (h1 : HdL w0 ys g) (h2 : HdL w0 zs h) : HdL w0 (ys ++ zs) (g ++ h) := by
  refine ⟨by rw [List.length_append, List.length_append, h1.1, h2.1], fun i hi => ?_⟩
  by_cases e : i < g.length
  · obtain ⟨a, n, c, e1, m, t⟩ := h1.2 i e
    exact ⟨a, n, c, by rw [List.getElem?_append_left (by rw [h1.1]; exact e)]; exact e1, m, by rw [List.getElem?_append_left e]; exact t⟩
  · rw [List.length_append] at hi
    obtain ⟨a, n, c, e1, m, t⟩ := h2.2 (i - g.length) (by omega)
    exact ⟨a, n, c, by rw [List.getElem?_append_right (by rw [h1.1]; omega), h1.1]; exact e1, m, by rw [List.getElem?_append_right (by omega)]; exact t⟩
theorem HdL.one {w0 : World} {a : Option Addr} {n c : Nat} {r : List ByteArray} (hn : n ≤ maxLen) (h : WordsIn w0 w0.heap.size a n r) : HdL w0 [.slice a n c] [r] := by
  refine ⟨rfl, fun i hi => ?_⟩
  obtain rfl : i = 0 := by simp at hi; exact hi
  exact ⟨a, n, c, rfl, hn, h⟩
theorem HdL.oneCell {w0 : World} {ys : List Value} {g : List (List ByteArray)} (h : HdL w0 ys g) : ∀ u ∈ ys, u.oneCell' = true := by
  intro u hu
  obtain ⟨i, hi, rfl⟩ := List.getElem_of_mem hu
  obtain ⟨a, n, c, e, _⟩ := h.2 i (by rw [← h.1]; exact hi)
  rw [List.getElem?_eq_getElem hi] at e
  rw [Option.some.inj e]; rfl

/-! ### a group of commands whose row is the call's own -/
def OwnG (w0 w : World) (B : Nat) (v : Value) (g : List (List ByteArray)) : Prop := ∃ ys, w.ownsRow B 32 1 v g.length ys ∧ HdL w0 ys g
theorem owns_block {w w' : World} {B : Nat} {e : TypeId} {v : Value} {n : Nat} {xs : List Value} (h : w.ownsRow B e 1 v n xs) (hb : ∀ b, v.ownBlock = some b → b < w.heap.size → w'.heap[b]? = w.heap[b]?) : w'.ownsRow B e 1 v n xs := by
  refine ⟨h.1, ?_⟩
  rcases h.2 with hn | ⟨g, cap, cur, rfl, hbg, hgg, rest⟩
  · exact .inl hn
  · exact .inr ⟨g, cap, cur, rfl, hbg, (hb g rfl (Array.getElem?_eq_some_iff.1 hgg).1).trans hgg, rest⟩
theorem OwnG.block {w0 w w' : World} {B : Nat} {v : Value} {g : List (List ByteArray)} (h : OwnG w0 w B v g) (hb : ∀ b, v.ownBlock = some b → b < w.heap.size → w'.heap[b]? = w.heap[b]?) : OwnG w0 w' B v g := by
  obtain ⟨ys, h1, h2⟩ := h
  exact ⟨ys, owns_block h1 hb, h2⟩
theorem OwnG.nil (w0 w : World) (B : Nat) : OwnG w0 w B (.slice none 0 0) [] := ⟨[], World.ownsRow_nil _ _ _ _, HdL.nil _⟩
theorem OwnG.lt {w0 w : World} {B : Nat} {v : Value} {g : List (List ByteArray)} (h : OwnG w0 w B v g) {b : Nat} (hb : v.ownBlock = some b) : B ≤ b ∧ b < w.heap.size := by
  obtain ⟨ys, h1, _⟩ := h; exact h1.lt b hb
theorem OwnG.form {w0 w : World} {B : Nat} {v : Value} {g : List (List ByteArray)} (h : OwnG w0 w B v g) : ∃ a c, v = .slice a g.length c := by
  obtain ⟨ys, ⟨h1, h2⟩, _⟩ := h
  rcases h2 with ⟨rfl, h0⟩ | ⟨g', cap, cur, rfl, _⟩
  · exact ⟨none, 0, by rw [h0]⟩
  · exact ⟨_, _, rfl⟩
/-- as a [][]string, in a later world -/
theorem OwnG.mat {w0 w : World} {B : Nat} {a : Option Addr} {n c : Nat} {g : List (List ByteArray)} (h : OwnG w0 w B (.slice a n c) g) (hb : Below w0.heap.size w0 w) : n = g.length ∧ MatIn w w.heap.size a n g := by
  obtain ⟨ys, hown, hl, hy⟩ := h
  rcases hown.2 with ⟨e, h0⟩ | ⟨g', cap, cur, e, _, hgg, rest⟩
  · cases e
    exact ⟨h0.symm, h0, fun hp => absurd hp (by omega)⟩
  · cases e
    refine ⟨rfl, rfl, fun hp => ⟨g', 0, rfl, (Array.getElem?_eq_some_iff.1 hgg).1, fun i hi => ?_⟩⟩
    obtain ⟨ai, ni, ci, e, m, t⟩ := hy i hi
    exact ⟨ai, ni, ci, by rw [Nat.zero_add, hown.cellAt i (by omega)]; exact e, m, (t.below hb).mono hb.size⟩

/-! ### a row of groups, each in a block of its own -/
structure Grp (w0 w : World) (B : Nat) (e : TypeId) (v : Value) (M kn : Nat) (xs : List Value) (gs : Nat → List (List ByteArray)) : Prop where
  row : w.ownsRow B e 1 v kn xs
  each : ∀ (j : Nat) (h : Value), xs[j]? = some h → OwnG w0 w B h (gs j)
  map : ∀ (j : Nat) (h : Value) (b : Nat), xs[j]? = some h → h.ownBlock = some b → b ≠ M
  apart : ∀ (j : Nat) (h : Value) (b : Nat), xs[j]? = some h → h.ownBlock = some b → v.ownBlock ≠ some b
  alone : ∀ (j : Nat) (h : Value) (j' : Nat) (h' : Value) (b : Nat), xs[j]? = some h → xs[j']? = some h' → h.ownBlock = some b → h'.ownBlock = some b → j = j'
  off : v.ownBlock ≠ some M

theorem Grp.length {w0 w : World} {B : Nat} {e : TypeId} {v : Value} {M kn : Nat} {xs : List Value} {gs : Nat → List (List ByteArray)} (h : Grp w0 w B e v M kn xs gs) : xs.length = kn := by
  have := h.row.1; omega
theorem Grp.nil (w0 w : World) (B : Nat) (e : TypeId) (M : Nat) (gs : Nat → List (List ByteArray)) : Grp w0 w B e (.slice none 0 0) M 0 [] gs :=
  ⟨World.ownsRow_nil _ _ _ _, fun j h he => by simp at he, fun j h b he => by simp at he, fun j h b he => by simp at he, fun j h j' h' b he => by simp at he, by simp [Value.ownBlock]⟩
/-- blocks of the row's are as they were -/
theorem Grp.keep {w0 w w' : World} {B : Nat} {e : TypeId} {v : Value} {M kn : Nat} {xs : List Value} {gs : Nat → List (List ByteArray)} (h : Grp w0 w B e v M kn xs gs) (hb : ∀ b, B ≤ b → b < w.heap.size → b ≠ M → w'.heap[b]? = w.heap[b]?) : Grp w0 w' B e v M kn xs gs := by
  refine ⟨owns_block h.row (fun b e1 hl => hb b (h.row.lt b e1).1 hl (fun e2 => h.off (e2 ▸ e1))), fun j x hx => (h.each j x hx).block (fun b e1 hl => hb b ((h.each j x hx).lt e1).1 hl (h.map j x b hx e1)), h.map, h.apart, h.alone, h.off⟩
theorem Grp.gs_congr {w0 w : World} {B : Nat} {e : TypeId} {v : Value} {M kn : Nat} {xs : List Value} {gs gs' : Nat → List (List ByteArray)} (h : Grp w0 w B e v M kn xs gs) (hg : ∀ j, j < kn → gs j = gs' j) : Grp w0 w B e v M kn xs gs' := by
  refine ⟨h.row, fun j x hx => ?_, h.map, h.apart, h.alone, h.off⟩
  have hj : j < kn := by rw [← h.length]; exact (List.getElem?_eq_some_iff.1 hx).1
  rw [← hg j hj]
  exact h.each j x hx

/-- one nil group more: what 'append(sets, nil)' leaves -/
theorem Grp.push {w0 w w1 w2 : World} {B : Nat} {e : TypeId} {v v' : Value} {M kn : Nat} {xs : List Value} {gs : Nat → List (List ByteArray)} (h : Grp w0 w B e v M kn xs gs) (hM : M < w.heap.size)
    (hg1 : w.grownBy w1 none) (hg2 : w1.grownBy w2 v.ownBlock) (hown : w2.ownsRow B e 1 v' (kn + 1) (xs ++ [.slice none 0 0])) (hloc : v'.ownBlock = v.ownBlock ∨ v'.ownBlock = some w1.heap.size) :
    Grp w0 w2 B e v' M (kn + 1) (xs ++ [.slice none 0 0]) (fun j => if j = kn then [] else gs j) := by
  have hlen := h.length
  have hbk : ∀ b, b < w.heap.size → v.ownBlock ≠ some b → w2.heap[b]? = w.heap[b]? := fun b hb hne =>
    (hg2.block b (Nat.lt_of_lt_of_le hb hg1.size) (fun e => hne e.symm)).trans (hg1.block b hb (by simp))
  have old : ∀ (j : Nat) (x : Value), (xs ++ [Value.slice none 0 0])[j]? = some x → (j < kn ∧ xs[j]? = some x) ∨ (j = kn ∧ x = .slice none 0 0) := by
    intro j x hx
    by_cases hj : j < kn
    · rw [List.getElem?_append_left (by omega)] at hx
      exact .inl ⟨hj, hx⟩
    · rw [List.getElem?_append_right (by omega)] at hx
      have hj2 : j - xs.length = 0 := by
        have := (List.getElem?_eq_some_iff.1 hx).1
        simp at this; exact this
      rw [hj2] at hx
      simp at hx
      exact .inr ⟨by omega, hx.symm⟩
  refine ⟨hown, ?_, ?_, ?_, ?_, ?_⟩
  · intro j x hx
    rcases old j x hx with ⟨hj, hx'⟩ | ⟨rfl, rfl⟩
    · show OwnG w0 w2 B x (if j = kn then [] else gs j)
      rw [if_neg (by omega)]
      exact (h.each j x hx').block (fun b e1 hl => hbk b hl (h.apart j x b hx' e1))
    · show OwnG w0 w2 B _ (if j = j then [] else gs j)
      rw [if_pos rfl]
      exact OwnG.nil _ _ _
  · intro j x b hx e1
    rcases old j x hx with ⟨hj, hx'⟩ | ⟨rfl, rfl⟩
    · exact h.map j x b hx' e1
    · simp [Value.ownBlock] at e1
  · intro j x b hx e1
    rcases old j x hx with ⟨hj, hx'⟩ | ⟨rfl, rfl⟩
    · rcases hloc with hl | hl
      · rw [hl]; exact h.apart j x b hx' e1
      · rw [hl]
        intro e2
        have := ((h.each j x hx').lt e1).2
        have := hg1.size
        have := Option.some.inj e2
        omega
    · simp [Value.ownBlock] at e1
  · intro j x j' x' b hx hx' e1 e2
    rcases old j x hx with ⟨hj, hx1⟩ | ⟨rfl, rfl⟩
    · rcases old j' x' hx' with ⟨hj', hx2⟩ | ⟨rfl, rfl⟩
      · exact h.alone j x j' x' b hx1 hx2 e1 e2
      · simp [Value.ownBlock] at e2
    · simp [Value.ownBlock] at e1
  · rcases hloc with hl | hl
    · rw [hl]; exact h.off
    · rw [hl]
      intro e2
      have := Option.some.inj e2
      have := hg1.size
      omega

/-- group k has grown, and its new header is stored -/
theorem Grp.put {w0 w w1 w2 : World} {B : Nat} {e : TypeId} {g kn cap : Nat} {M : Nat} {xs : List Value} {gs : Nat → List (List ByteArray)} {k : Nat} {x v' : Value} {ys : List Value} {g' : List (List ByteArray)}
    (h : Grp w0 w B e (.slice (some ⟨g, 0, none⟩) kn cap) M kn xs gs) (hM : M < w.heap.size) (hx : xs[k]? = some x)
    (hg1 : w.grownBy w1 none) (hg2 : w1.grownBy w2 x.ownBlock) (hown : w2.ownsRow B 32 1 v' g'.length ys) (hys : HdL w0 ys g') (hloc : v'.ownBlock = x.ownBlock ∨ v'.ownBlock = some w1.heap.size) :
    Grp w0 (w2.setCell ⟨g, k, none⟩ v') B e (.slice (some ⟨g, 0, none⟩) kn cap) M kn (xs.set k v') (fun j => if j = k then g' else gs j) := by
  have hlen := h.length
  have hgl : g < w.heap.size := (h.row.lt g rfl).2
  have hbk : ∀ b, b < w.heap.size → x.ownBlock ≠ some b → w2.heap[b]? = w.heap[b]? := fun b hb hne =>
    (hg2.block b (Nat.lt_of_lt_of_le hb hg1.size) (fun e => hne e.symm)).trans (hg1.block b hb (by simp))
  have hset : ∀ b, b ≠ g → (w2.setCell ⟨g, k, none⟩ v').heap[b]? = w2.heap[b]? := fun b hb => Go.Deep.blk_setCell_other _ _ _ _ hb
  have hxg : x.ownBlock ≠ some g := fun e1 => h.apart k x g hx e1 rfl
  have hv'g : v'.ownBlock ≠ some g := by
    rcases hloc with hl | hl
    · rw [hl]; exact hxg
    · rw [hl]
      intro e2
      have := Option.some.inj e2
      have := hg1.size
      omega
  have hrow2 : w2.ownsRow B e 1 (.slice (some ⟨g, 0, none⟩) kn cap) kn xs := owns_block h.row (fun b e1 hl => by
    cases e1
    exact hbk g hl hxg)
  have old : ∀ (j : Nat) (y : Value), (xs.set k v')[j]? = some y → (j = k ∧ y = v') ∨ (j ≠ k ∧ xs[j]? = some y) := by
    intro j y hy
    by_cases e : j = k
    · subst e
      rw [List.getElem?_set_self (List.getElem?_eq_some_iff.1 hx).1] at hy
      exact .inl ⟨rfl, (Option.some.inj hy).symm⟩
    · rw [List.getElem?_set_ne (fun e' => e e'.symm)] at hy
      exact .inr ⟨e, hy⟩
  refine ⟨(hrow2.stored k v').1, ?_, ?_, ?_, ?_, h.off⟩
  · intro j y hy
    rcases old j y hy with ⟨rfl, rfl⟩ | ⟨hj, hy'⟩
    · show OwnG w0 _ B y (if j = j then g' else gs j)
      rw [if_pos rfl]
      exact ⟨ys, owns_block hown (fun b e1 hl => hset b (fun e2 => hv'g (e2 ▸ e1))), hys⟩
    · show OwnG w0 _ B y (if j = k then g' else gs j)
      rw [if_neg hj]
      exact (h.each j y hy').block (fun b e1 hl => (hset b (fun e2 => h.apart j y b hy' e1 (by rw [e2]; rfl))).trans (hbk b hl (fun e2 => hj (h.alone j y k x b hy' hx e1 e2))))
  · intro j y b hy e1
    rcases old j y hy with ⟨rfl, rfl⟩ | ⟨hj, hy'⟩
    · rcases hloc with hl | hl
      · exact h.map j x b hx (hl ▸ e1)
      · rw [hl] at e1
        have := Option.some.inj e1
        have := hg1.size
        omega
    · exact h.map j y b hy' e1
  · intro j y b hy e1 e2
    rcases old j y hy with ⟨rfl, rfl⟩ | ⟨hj, hy'⟩
    · cases e2
      exact hv'g e1
    · exact h.apart j y b hy' e1 e2
  · intro j y j' y' b hy hy' e1 e2
    have new : ∀ (i : Nat) (z : Value), xs[i]? = some z → z.ownBlock = some b → v'.ownBlock = some b → i = k := by
      intro i z hz ez ev
      rcases hloc with hl | hl
      · rw [hl] at ev
        exact h.alone i z k x b hz hx ez ev
      · rw [hl] at ev
        have := Option.some.inj ev
        have := hg1.size
        have := ((h.each i z hz).lt ez).2
        omega
    rcases old j y hy with ⟨rfl, rfl⟩ | ⟨hj, hy1⟩
    · rcases old j' y' hy' with ⟨rfl, rfl⟩ | ⟨hj', hy2⟩
      · rfl
      · exact (new j' y' hy2 e2 e1).symm
    · rcases old j' y' hy' with ⟨rfl, rfl⟩ | ⟨hj', hy2⟩
      · exact new j y hy1 e1 e2
      · exact h.alone j y j' y' b hy1 hy2 e1 e2
end Go.Proofs.Qxb6001662a.Wl
