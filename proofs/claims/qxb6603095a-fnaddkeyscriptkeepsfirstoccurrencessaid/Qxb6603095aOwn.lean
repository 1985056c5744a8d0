import Derived.Test.Qxb6603095aReads
import Derived.Maps.AppendAt
import Derived.ArgAppend
namespace Go.Proofs.Qxb6603095a.Wl
open Go.RowKit Go.Maps Go.WideMaps
open Go.Proofs.Qxb6603095a.Pl Go.Proofs.Qxb6603095a.Bs
set_option linter.unusedVariables false

/-! ### all blocks but the bad ones are as they were -/
structure Keeps (w w' : World) (bad : Nat → Prop) : Prop where
  os : w'.os = w.os
  tape : w'.tape = w.tape
  output : w'.output = w.output
  size : w.heap.size ≤ w'.heap.size
  block : ∀ k, k < w.heap.size → ¬ bad k → w'.heap[k]? = w.heap[k]?

theorem Keeps.refl (w : World) (bad : Nat → Prop) : Keeps w w bad := ⟨rfl, rfl, rfl, Nat.le_refl _, fun _ _ _ => rfl⟩
theorem Keeps.trans {a b c : World} {bad : Nat → Prop} (h : Keeps a b bad) (k : Keeps b c bad) : Keeps a c bad :=
  ⟨k.os.trans h.os, k.tape.trans h.tape, k.output.trans h.output, Nat.le_trans h.size k.size, fun i hi hb => (k.block i (Nat.lt_of_lt_of_le hi h.size) hb).trans (h.block i hi hb)⟩
theorem Keeps.mono {a b : World} {bad bad' : Nat → Prop} (h : Keeps a b bad) (hb : ∀ k, k < a.heap.size → bad k → bad' k) : Keeps a b bad' :=
  ⟨h.os, h.tape, h.output, h.size, fun i hi hn => h.block i hi (fun hh => hn (hb i hi hh))⟩
theorem Keeps.ofGrown {w w' : World} {row : Option Nat} (h : w.grownBy w' row) : Keeps w w' (fun k => some k = row) := ⟨h.os, h.tape, h.output, h.size, h.block⟩
theorem Keeps.ofBelow {w w' : World} (h : Below w.heap.size w w') : Keeps w w' (fun _ => False) := ⟨h.os, h.tape, h.output, h.size, fun k hk _ => h.block k hk⟩
theorem Keeps.alloc (w : World) (o : Obj) (bad : Nat → Prop) : Keeps w (w.alloc o) bad := (Keeps.ofBelow ((Below.refl _ _).alloc (Nat.le_refl _) o)).mono (fun _ _ h => h.elim)
theorem Keeps.drawn {w w' : World} (h : Drawn w w') (bad : Nat → Prop) : Keeps w w' bad := (Keeps.ofBelow (h.below _)).mono (fun _ _ h => h.elim)
theorem Keeps.setCell (w : World) (a : Addr) (v : Value) : Keeps w (w.setCell a v) (fun k => k = a.block) :=
  ⟨rfl, rfl, rfl, by rw [Go.Deep.nblk_setCell]; exact Nat.le_refl _, fun k _ hn => Go.Deep.blk_setCell_other _ _ _ _ hn⟩
theorem Keeps.below {w w' : World} {bad : Nat → Prop} (h : Keeps w w' bad) (B : Nat) (hB : B ≤ w.heap.size) (hb : ∀ k, k < B → ¬ bad k) : Below B w w' :=
  ⟨h.os, h.tape, h.output, h.size, fun k hk => h.block k (Nat.lt_of_lt_of_le hk hB) (hb k hk)⟩
theorem Keeps.cell {w w' : World} {bad : Nat → Prop} (h : Keeps w w' bad) {p : Addr} {v : Value} (hc : w.cell? p = some v) (hb : ¬ bad p.block) : w'.cell? p = some v := by
  rw [World.cell?_of_block (w := w) (h.block p.block (World.block_lt_of_cell? _ _ hc) hb)]; exact hc
theorem Keeps.frozen {w w' : World} {bad : Nat → Prop} (h : Keeps w w' bad) {p : Addr} (hl : p.block < w.heap.size) (hb : ¬ bad p.block) : w'.frozen? p = w.frozen? p :=
  World.frozen?_of_block (w := w) (h.block p.block hl hb)

/-! ### a text that lies in no bad block -/
def TextOff (w : World) (bad : Nat → Prop) (a : Option Addr) (n : Nat) (Z : List Int) : Prop :=
  TextIn w w.heap.size a n Z ∧ (0 < n → ∀ x, a = some x → ¬ bad x.block)
theorem TextOff.keeps {w w' : World} {bad bad' : Nat → Prop} {a : Option Addr} {n : Nat} {Z : List Int} (h : TextOff w bad a n Z) (k : Keeps w w' bad') (hb : ∀ b, b < w.heap.size → bad' b → bad b) : TextOff w' bad a n Z := by
  obtain ⟨⟨h1, h2, h3⟩, h4⟩ := h
  refine ⟨⟨h1, h2, fun hp => ?_⟩, h4⟩
  obtain ⟨b, off, e, hl, hc⟩ := h3 hp
  exact ⟨b, off, e, Nat.lt_of_lt_of_le hl k.size, fun i hi => k.cell (hc i hi) (fun hh => h4 hp _ e (hb b hl hh))⟩
theorem TextOff.weaken {w : World} {bad bad' : Nat → Prop} {a : Option Addr} {n : Nat} {Z : List Int} (h : TextOff w bad a n Z) (hb : ∀ b, b < w.heap.size → bad' b → bad b) : TextOff w bad' a n Z := by
  refine ⟨h.1, fun hp x e hh => ?_⟩
  obtain ⟨b, off, e2, hl, _⟩ := h.1.2.2 hp
  rw [e] at e2
  cases e2
  exact h.2 hp _ e (hb b hl hh)

/-! ### a list of byte strings whose row is the call's own; its texts lie elsewhere -/
def OwnList (w : World) (base : Nat) (v : Value) (bad : Nat → Prop) (K : List (List Int)) : Prop :=
  ∃ xs : List Value, w.ownsRow base 22 1 v K.length xs ∧ (∀ k, v.ownBlock = some k → bad k) ∧ ∀ i, i < K.length → ∃ ai ni ci, xs[i]? = some (.slice ai ni ci) ∧ ni ≤ maxLen ∧ TextOff w bad ai ni (K[i]?.getD [])

theorem OwnList.form {w : World} {base : Nat} {v : Value} {bad : Nat → Prop} {K : List (List Int)} (h : OwnList w base v bad K) :
    ∃ a c, v = .slice a K.length c ∧ K.length ≤ c ∧ ListIn w w.heap.size a K.length K := by
  obtain ⟨xs, ⟨hl, h0 | ⟨g, cap, cur, rfl, hb, hh, hn, hc, hs, ht⟩⟩, hbad, hx⟩ := h
  · obtain ⟨rfl, h0⟩ := h0
    have : K = [] := List.eq_nil_of_length_eq_zero h0
    subst this
    exact ⟨none, 0, rfl, Nat.le_refl _, rfl, fun h => absurd h (by simp)⟩
  · refine ⟨some ⟨g, 0, none⟩, cap, rfl, hn, rfl, fun hp => ⟨g, 0, rfl, (Array.getElem?_eq_some_iff.1 hh).1, fun i hi => ?_⟩⟩
    obtain ⟨ai, ni, ci, e, hm, htx⟩ := hx i hi
    refine ⟨ai, ni, ci, ?_, hm, htx.1⟩
    have hown : w.ownsRow base 22 1 (.slice (some ⟨g, 0, none⟩) K.length cap) K.length xs := ⟨hl, .inr ⟨g, cap, cur, rfl, hb, hh, hn, hc, hs, ht⟩⟩
    rw [Nat.zero_add, hown.cellAt i (by omega), e]
theorem OwnList.keeps {w w' : World} {base : Nat} {v : Value} {bad bad' : Nat → Prop} {K : List (List Int)} (h : OwnList w base v bad K) (k : Keeps w w' bad') (hb : ∀ b, b < w.heap.size → bad' b → bad b) (hv : ∀ b, v.ownBlock = some b → ¬ bad' b) : OwnList w' base v bad K := by
  obtain ⟨xs, hown, hbad, hx⟩ := h
  refine ⟨xs, ?_, hbad, fun i hi => ?_⟩
  · obtain ⟨hl, h0 | ⟨g, cap, cur, rfl, hbs, hh, hn, hc, hs, ht⟩⟩ := hown
    · exact ⟨hl, .inl h0⟩
    · exact ⟨hl, .inr ⟨g, cap, cur, rfl, hbs, (k.block g (Array.getElem?_eq_some_iff.1 hh).1 (hv g rfl)).trans hh, hn, hc, hs, ht⟩⟩
  · obtain ⟨ai, ni, ci, e, hm, htx⟩ := hx i hi
    exact ⟨ai, ni, ci, e, hm, htx.keeps k hb⟩

theorem ownBlock_lt {w : World} {base : Nat} {v : Value} {n : Nat} {xs : List Value} (h : w.ownsRow base 22 1 v n xs) : ∀ k, v.ownBlock = some k → base ≤ k ∧ k < w.heap.size := h.lt

/-- one element more: what the append leaves. 'w0': the world in which the one-cell block was laid. -/
theorem OwnList.append {w w1 : World} {base : Nat} {v v' : Value} {bad : Nat → Prop} {K : List (List Int)} {xs : List Value} {ak : Option Addr} {mk ck : Nat} {Z : List Int} (o : Obj)
    (hown : w.ownsRow base 22 1 v K.length xs) (hbad : ∀ k, v.ownBlock = some k → bad k) (hx : ∀ i, i < K.length → ∃ ai ni ci, xs[i]? = some (.slice ai ni ci) ∧ ni ≤ maxLen ∧ TextOff w bad ai ni (K[i]?.getD []))
    (hk : mk ≤ maxLen) (hZ : TextOff w bad ak mk Z)
    (hown1 : w1.ownsRow base 22 1 v' (K.length + 1) (xs ++ [.slice ak mk ck])) (hgrow : (w.alloc o).grownBy w1 v.ownBlock) (hloc : v'.ownBlock = v.ownBlock ∨ v'.ownBlock = some (w.alloc o).heap.size) :
    OwnList w1 base v' (fun k => bad k ∨ w.heap.size ≤ k) (K ++ [Z]) ∧ Keeps w w1 (fun k => some k = v.ownBlock) := by
  have hkeep : Keeps w w1 (fun k => some k = v.ownBlock) := (Keeps.alloc w o _).trans (Keeps.ofGrown hgrow)
  have hxl : xs.length = K.length := by simpa using hown.1
  refine ⟨⟨xs ++ [.slice ak mk ck], by rw [List.length_append]; exact hown1, ?_, ?_⟩, hkeep⟩
  · intro k hk
    rcases hloc with h | h
    · exact .inl (hbad k (h ▸ hk))
    · rw [h] at hk
      cases hk
      rw [Go.Deep.nblk_alloc]
      exact .inr (by omega)
  · intro i hi
    have go : ∀ ai ni Y, TextOff w bad ai ni Y → TextOff w1 (fun k => bad k ∨ w.heap.size ≤ k) ai ni Y := by
      intro ai ni Y hY
      have h1 := hY.keeps hkeep (fun b hb e => hbad b e.symm)
      refine ⟨h1.1, fun hp x e hh => ?_⟩
      rcases hh with hh | hh
      · exact hY.2 hp x e hh
      · obtain ⟨b, off, e2, hl, _⟩ := hY.1.2.2 hp
        rw [e] at e2; cases e2
        exact absurd hh (by exact Nat.not_le.2 hl)
    rw [List.length_append, List.length_singleton] at hi
    by_cases e : i < K.length
    · obtain ⟨ai, ni, ci, e1, hm, ht⟩ := hx i e
      refine ⟨ai, ni, ci, by rw [List.getElem?_append_left (by omega)]; exact e1, hm, ?_⟩
      rw [List.getElem?_append_left e]
      exact go _ _ _ ht
    · have ei : i = K.length := by omega
      subst ei
      refine ⟨ak, mk, ck, by rw [List.getElem?_append_right (by omega), hxl, Nat.sub_self]; rfl, hk, ?_⟩
      rw [List.getElem?_append_right (Nat.le_refl _), Nat.sub_self]
      exact go _ _ _ hZ

/-- 'append(v, x)' of one element: what 'wpList_append_own_at' leaves, and besides: WHERE IT MUST GROW nothing that was there is written -/
theorem append_both {ops : Array Oper} {rest : List Oper} {o : Oper} {a : Act} {Q : Exit → Act → World → Prop} {w : World} (hgd : o.guard = none) (s x : Operand)
    (ho : o.op = .call { callee := .builtin .append, args := #[s, x], argTypes := #[25, 25] })
    (base : Nat) (i : TypeInfo) (hi : Try.prog.info? 22 = some i) (hz : i.zero = some (.slice none 0 0)) (hsize : i.size = 1) (hby : i.bytes = 24)
    (aK : Option Addr) (n cK : Nat) (xs : List Value) (hs : a.eval s = .slice aK n cK) (hown : w.ownsRow base 22 1 (.slice aK n cK) n xs)
    (ad : Addr) (u : Value) (hx : a.eval x = .slice (some ad) 1 1) (hnews : ∀ j v, [u][j]? = some v → w.cell? (ad.add j) = some v) (h1 : ∀ v ∈ [u], v.oneCell' = true)
    (h63 : n + 1 ≤ maxLen) (hbytes : (n + 1) * 24 ≤ 140737488355328) (hbase : base ≤ w.heap.size)
    (h : ∀ v' w', w'.ownsRow base 22 1 v' (n + 1) (xs ++ [u]) → w.grownBy w' (Value.slice aK n cK).ownBlock → (v'.ownBlock = (Value.slice aK n cK).ownBlock ∨ v'.ownBlock = some w.heap.size) → (cK < n + 1 → w.grownBy w' none) → wpList Try.prog ops Q rest (a.put o.dst v') w') :
    wpList Try.prog ops Q (o :: rest) a w := by
  refine wpList_plain hgd fun K hK => ?_
  obtain ⟨v', w', hr, h2, h3, h4, h5⟩ := run_append_own_at (P := Try.prog) w base 25 o.type 22 i (.slice none 0 0) 1 24 Try.underlying25 hi hz hsize hby rfl (by decide) (.slice aK n cK) n xs hown ad 1 1 [u] rfl hnews h1 h63 hbytes hbase
  have hg : cK < n + 1 → w.grownBy w' none := by
    intro hc
    cases aK with
    | none => exact h3
    | some b =>
      have hb : ∀ j v, xs[j]? = some v → w.cell? (b.add j) = some v := by
        rcases hown.2 with ⟨e, _⟩ | ⟨g, cap, cur, e, _⟩
        · cases e
        · have := hown.cells (g := g) (by rw [e]; rfl)
          cases e
          exact this
      obtain ⟨v2, w2, hr2, _, g2⟩ := run_append_arg_grows (P := Try.prog) w 25 o.type 22 i (.slice none 0 0) 1 24 Try.underlying25 hi hz hsize hby rfl (by decide) b n cK xs hown.1 hb ad 1 1 [u] rfl hnews hc h63 hbytes
      rw [hr] at hr2
      cases hr2
      exact g2
  unfold Oper.wp execOp
  simp only [ho, resolve, invoke, builtin, Sem.run_bind, Sem.run_pure, Result.andThen_ok, List.map_toArray, List.map_cons, List.map_nil, hs, hx, hr]
  exact hK _ _ (h v' w' h2 h3 h5 hg)

/-- 'keys[first:]', its address one name -/
theorem slice_from' (a : Option Addr) (n c f : Nat) (hf : f ≤ n) (hc : n ≤ c) :
    ∃ ao : Option Addr, (∀ wx, (Instr.slice 25 (.slice a n c) (some (.int .i64 (f : Int))) none none).run Try.prog wx = .ok (.slice ao (n - f) (c - f)) wx) ∧ ∀ w B K, ListIn w B a n K → ListIn w B ao (n - f) (K.drop f) := by
  refine ⟨_, fun wx => ?_, fun w B K h => h.from (c := c) hf hc⟩
  have hs : (sizeOf (Try.prog.elem 25)).run Try.prog wx = .ok 1 wx := by kernel_rfl
  rw [run_slice_l (P := Try.prog) (w := wx) 25 a n c (by kernel_rfl) .i64 (f : Int) (by omega) (by omega), hs]
  simp [Result.andThen, sliced]
theorem slice_from (a : Option Addr) (n c f : Nat) (hf : f ≤ n) (w : World) (B : Nat) (K : List (List Int)) (hc : n ≤ c) (h : ListIn w B a n K) :
    ∃ ao : Option Addr, (∀ wx, (Instr.slice 25 (.slice a n c) (some (.int .i64 (f : Int))) none none).run Try.prog wx = .ok (.slice ao (n - f) (c - f)) wx) ∧ ListIn w B ao (n - f) (K.drop f) := by
  obtain ⟨ao, h1, h2⟩ := slice_from' a n c f hf hc
  exact ⟨ao, h1, h2 w B K h⟩
end Go.Proofs.Qxb6603095a.Wl
