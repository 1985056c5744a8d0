import Derived.Test.Qxb6001662aNames
namespace Go.Proofs.Qxb6001662a.Wl
open Go.RowKit Go.Maps Go.WideMaps
open Go.Proofs.Qxb6001662a.Bs
set_option linter.unusedVariables false

theorem grown_cell {w w' : World} {b : Nat} (h : w.grownBy w' (some b)) {p : Addr} {v : Value} (hc : w.cell? p = some v) (hp : p.block < w.heap.size) (hb : p.block ≠ b) : w'.cell? p = some v := by
  rw [← hc]; unfold World.cell?; rw [h.block p.block hp (fun e => hb (Option.some.inj e))]
theorem grown_frozen {w w' : World} {b : Nat} (h : w.grownBy w' (some b)) {p : Addr} (hp : p.block < w.heap.size) (hb : p.block ≠ b) : w'.frozen? p = w.frozen? p := by
  unfold World.frozen?; rw [h.block p.block hp (fun e => hb (Option.some.inj e))]
theorem grown_below {w w' : World} {b B : Nat} (h : w.grownBy w' (some b)) (hB : B ≤ w.heap.size) (hb : B ≤ b) : Below B w w' :=
  ⟨h.os, h.tape, h.output, h.size, fun k hk => h.block k (by omega) (fun e => by have := Option.some.inj e; omega)⟩

/-- the pointer's cell holds the map of maps -/
def NamesM (w : World) (p M N : Nat) (β : ByteArray → Option Nat) (dl : Nat) (f : ByteArray → ByteArray → Bool) (cn : ByteArray → Nat) : Prop :=
  w.cell? ⟨p, 0, none⟩ = some (.map (some M)) ∧ w.frozen? ⟨p, 0, none⟩ = false ∧ p < M ∧ OutMap w M N β dl ∧
  (∀ o b, β o = some b → p < b ∧ b ≠ M ∧ InSet w b N (f o) (cn o)) ∧ (∀ o o' b, β o = some b → β o' = some b → o = o')

/-- the first map: made and stored -/
theorem names_new (w : World) (p : Nat) (v : Value) (hc : w.cell? ⟨p, 0, none⟩ = some v) (hf : w.frozen? ⟨p, 0, none⟩ = false) (f : ByteArray → ByteArray → Bool) (cn : ByteArray → Nat) :
    NamesM ((w.alloc (.map #[] 0)).setCell ⟨p, 0, none⟩ (.map (some w.heap.size))) p w.heap.size 0 (fun _ => none) 0 f cn ∧ Below p w ((w.alloc (.map #[] 0)).setCell ⟨p, 0, none⟩ (.map (some w.heap.size))) := by
  have hp : p < w.heap.size := World.block_lt_of_cell? _ _ hc
  have hb : Below w.heap.size w (w.alloc (.map #[] 0)) := (Below.refl _ _).alloc (Nat.le_refl _) _
  have hc1 : (w.alloc (.map #[] 0)).cell? ⟨p, 0, none⟩ = some v := (hb.cell (by exact hp)).trans hc
  have hm := OutMap.made w
  refine ⟨⟨?_, ?_, hp, hm.of_block (Go.Deep.blk_setCell_other _ _ _ _ (by exact Nat.ne_of_gt hp)), (fun o b h => absurd h (by simp)), (fun o o' b h => absurd h (by simp))⟩, (hb.mono (Nat.le_of_lt hp)).setCell (by exact Nat.le_refl _) _⟩
  · exact World.cell?_setCell_same _ _ _ hc1
  · have e1 : ((w.alloc (.map #[] 0)).setCell ⟨p, 0, none⟩ (.map (some w.heap.size))).frozen? ⟨p, 0, none⟩ = (w.alloc (.map #[] 0)).frozen? ⟨p, 0, none⟩ := by simp [go_sem]
    rw [e1, ← hf]
    unfold World.frozen?; rw [hb.block p hp]

/-- a name that the map lacks: an empty set is laid under it -/
theorem names_key (w : World) (p M N : Nat) (β : ByteArray → Option Nat) (dl : Nat) (f : ByteArray → ByteArray → Bool) (cn : ByteArray → Nat) (o : ByteArray) (h : NamesM w p M N β dl f cn) (ho : o.size ≤ maxLen) (hN : N < maxLen) (hβ : β o = none) (hf : ∀ y, f o y = false) (hcn : cn o = 0) :
    ∃ w', (Instr.mapUpdate 58 (.map (some M)) (.string o) (.map (some w.heap.size))).run Try.prog (w.alloc (.map #[] 0)) = .ok () w' ∧ NamesM w' p M (N + 1) (fun y => if y = o then some w.heap.size else β y) (dl + 1) f cn ∧ Below p w w' := by
  obtain ⟨h1, h2, h3, h4, h5, h6⟩ := h
  have hp : p < w.heap.size := World.block_lt_of_cell? _ _ h1
  have hb : Below w.heap.size w (w.alloc (.map #[] 0)) := (Below.refl _ _).alloc (Nat.le_refl _) _
  have hs : (w.alloc (.map #[] 0)).heap.size = w.heap.size + 1 := Go.Deep.nblk_alloc _ _
  have hMlt := h4.lt
  have hin := InSet.made w
  obtain ⟨w', hrun, hO, hg⟩ := (h4.of_block (hb.block M hMlt)).put o w.heap.size ho hN
  rw [hβ] at hO
  refine ⟨w', hrun, ⟨?_, ?_, h3, hO, ?_, ?_⟩, (hb.mono (Nat.le_of_lt hp)).trans (grown_below hg (by omega) (by omega))⟩
  · exact grown_cell hg ((hb.cell (by exact hp)).trans h1) (by show p < _; omega) (by exact Nat.ne_of_lt h3)
  · rw [grown_frozen hg (by show p < _; omega) (by exact Nat.ne_of_lt h3)]
    have : (w.alloc (.map #[] 0)).frozen? ⟨p, 0, none⟩ = w.frozen? ⟨p, 0, none⟩ := by
      unfold World.frozen?; rw [hb.block p hp]
    rw [this]; exact h2
  · intro y b hy
    dsimp only at hy
    by_cases e : y = o
    · subst e
      rw [if_pos rfl] at hy
      cases hy
      refine ⟨hp, Nat.ne_of_gt hMlt, ?_⟩
      rw [hcn]
      exact ((hin.of_block (hg.block _ (by omega) (fun e => by have := Option.some.inj e; omega))).mono (Nat.zero_le _) (fun x => (hf x).symm))
    · rw [if_neg e] at hy
      obtain ⟨a1, a2, a3⟩ := h5 y b hy
      have hbl := a3.lt
      refine ⟨a1, a2, ((a3.of_block (hb.block b hbl)).of_block (hg.block b (by omega) (fun e => a2 (Option.some.inj e)))).mono (Nat.le_succ _) (fun _ => rfl)⟩
  · intro y y' b hy hy'
    dsimp only at hy hy'
    have key : ∀ z, (if z = o then some w.heap.size else β z) = some w.heap.size → z = o := by
      intro z hz
      by_cases e : z = o
      · exact e
      · rw [if_neg e] at hz
        have := (h5 z _ hz).2.2.lt
        omega
    by_cases e : y = o
    · subst e
      rw [if_pos rfl] at hy
      cases hy
      exact (key y' hy').symm
    · by_cases e' : y' = o
      · subst e'
        rw [if_pos rfl] at hy'
        cases hy'
        exact key y hy
      · rw [if_neg e] at hy
        rw [if_neg e'] at hy'
        exact h6 y y' b hy hy'

/-- the inner name goes in -/
theorem names_put (w : World) (p M N : Nat) (β : ByteArray → Option Nat) (dl : Nat) (f : ByteArray → ByteArray → Bool) (cn : ByteArray → Nat) (o x : ByteArray) (b : Nat) (h : NamesM w p M N β dl f cn) (hx : x.size ≤ maxLen) (hN : N < maxLen) (hβ : β o = some b) :
    ∃ w', (Instr.mapUpdate 61 (.map (some b)) (.string x) (.bool true)).run Try.prog w = .ok () w' ∧ NamesM w' p M (N + 1) β dl (fun o' y => f o' y || (decide (o' = o) && decide (y = x))) (fun o' => if o' = o then (if f o x then cn o else cn o + 1) else cn o') ∧ Below p w w' := by
  obtain ⟨h1, h2, h3, h4, h5, h6⟩ := h
  have hp : p < w.heap.size := World.block_lt_of_cell? _ _ h1
  obtain ⟨b1, b2, b3⟩ := h5 o b hβ
  obtain ⟨w', hrun, hI, hg⟩ := b3.put x hx hN
  have hMlt := h4.lt
  have hO : OutMap w' M (N + 1) β dl := by
    obtain ⟨D, ho, r⟩ := h4.of_block (hg.block M hMlt (fun e => b2 (Option.some.inj e).symm))
    exact ⟨D, ho.mono (Nat.le_succ _), r⟩
  refine ⟨w', hrun, ⟨grown_cell hg h1 (by exact hp) (by exact Nat.ne_of_lt b1), ?_, h3, hO, ?_, h6⟩, grown_below hg (Nat.le_of_lt hp) (Nat.le_of_lt b1)⟩
  · rw [grown_frozen hg (by exact hp) (by exact Nat.ne_of_lt b1)]; exact h2
  · intro y b' hy
    by_cases e : y = o
    · subst e
      have : b' = b := by rw [hβ] at hy; exact (Option.some.inj hy).symm
      subst this
      refine ⟨b1, b2, ?_⟩
      dsimp only
      rw [if_pos rfl]
      exact hI.mono (Nat.le_refl _) (fun z => by simp)
    · obtain ⟨a1, a2, a3⟩ := h5 y b' hy
      have hne : b' ≠ b := fun e' => e (h6 y o b' hy (e' ▸ hβ))
      refine ⟨a1, a2, ?_⟩
      dsimp only
      rw [if_neg e]
      exact (a3.of_block (hg.block b' a3.lt (fun e => hne (Option.some.inj e)))).mono (Nat.le_succ _) (fun z => by simp [e])
end Go.Proofs.Qxb6001662a.Wl
