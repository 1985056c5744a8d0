import Derived.Test.Qxb6603095aSets
import Derived.Deep.Slices
import Derived.OpenShut
namespace Go.Proofs.Qxb6603095a.Wl
open Go.RowKit Go.Maps Go.WideMaps Go.ChangeShapes Go.WideShapes Go.WideElems
open Go.Proofs.Qxb6603095a.Pl Go.Proofs.Qxb6603095a.Bs
set_option linter.unusedVariables false

section
variable {H : Type} {enc : TypeId × Value → H} {W : World}

/-- a []byte that came in -/
theorem text_of_trod {fuel : Nat} {v : Value} {x : DataW H × List MemPlace} (h : DataW.trod enc Try.prog W 0 (fun _ => true) true fuel 22 [v] = some x) :
    ∃ a n c Z, v = .slice a n c ∧ n ≤ c ∧ c ≤ maxLen ∧ TextIn W W.heap.size a n Z := by
  rcases open_ints Try.underlying22 Try.underlying5 (by kernel_rfl) h with ⟨hcs, _⟩ | ⟨ad, len, cap, zs, hcs, _, hl, hm, hz, _, hcell, hwz⟩
  · simp at hcs
    exact ⟨none, 0, 0, [], hcs, Nat.le_refl _, Nat.zero_le _, rfl, fun i => by simp, fun h => absurd h (by omega)⟩
  · simp at hcs hz
    refine ⟨some ad, len, cap, zs.take len, hcs, hl, hm, by simp; omega, ?_, fun hpos => ?_⟩
    · intro i
      by_cases hi : i < (zs.take len).length
      · have hmm : (zs.take len)[i] ∈ zs := List.mem_of_mem_take (List.getElem_mem hi)
        have hb := bounds_u8 (hwz _ hmm)
        rw [List.getElem?_eq_getElem hi]
        simpa using hb
      · rw [List.getElem?_eq_none (by omega)]; simp
    · obtain ⟨b, off, spot⟩ := ad
      have hspot : spot = none := by simpa [Addr.add] using World.cell?_spot (hcell 0 (by omega))
      subst hspot
      have hcell' : ∀ j, j < zs.length → W.cell? ⟨b, off + j, none⟩ = some (.int .u8 (zs.getD j 0)) := fun j hj => by rw [← add_plain]; exact hcell j hj
      refine ⟨b, off, rfl, World.block_lt_of_cell? _ _ (hcell' 0 (by omega)), fun i hi => ?_⟩
      rw [hcell' i (by omega), List.getElem?_take_of_lt hi]
      simp

/-- a [][]byte that came in -/
theorem list_of_trod {fuel : Nat} {v : Value} {x : DataW H × List MemPlace} (h : DataW.trod enc Try.prog W 0 (fun _ => true) true fuel 25 [v] = some x) :
    ∃ a n c K, v = .slice a n c ∧ n ≤ c ∧ c ≤ maxLen ∧ ListIn W W.heap.size a n K := by
  rcases Deep.open_slice1 Try.underlying25 (by kernel_rfl) h with ⟨hcs, _⟩ | ⟨ad, len, cap, m, q, V, D, Pl, hcs, _, hl, hm, hmm, _, hV⟩
  · simp at hcs
    exact ⟨none, 0, 0, [], hcs, Nat.le_refl _, Nat.zero_le _, rfl, fun h => absurd h (by omega)⟩
  · simp at hcs hmm
    have hex : ∀ i, i < len → ∃ Z : List Int, ∃ ai ni ci, V i = .slice ai ni ci ∧ ni ≤ maxLen ∧ TextIn W W.heap.size ai ni Z := by
      intro i hi
      obtain ⟨a1, n1, c1, Z, e, h1, h2, h3⟩ := text_of_trod (hV i (by omega)).2
      exact ⟨Z, a1, n1, c1, e, Nat.le_trans h1 h2, h3⟩
    obtain ⟨Zf, hZf⟩ := Deep.choose_lt hex
    refine ⟨some ad, len, cap, (List.range len).map Zf, hcs, hl, hm, by simp, fun hpos => ?_⟩
    obtain ⟨b, off, spot⟩ := ad
    have hspot : spot = none := by simpa [Addr.add] using World.cell?_spot (hV 0 (by omega)).1
    subst hspot
    have hV' : ∀ j, j < m → W.cell? ⟨b, off + j, none⟩ = some (V j) := fun j hj => by rw [← add_plain]; exact (hV j hj).1
    refine ⟨b, off, rfl, World.block_lt_of_cell? _ _ (hV' 0 (by omega)), fun i hi => ?_⟩
    obtain ⟨ai, ni, ci, e, hmx, ht⟩ := hZf i hi
    refine ⟨ai, ni, ci, by rw [hV' i (by omega), e], hmx, ?_⟩
    rw [List.getElem?_map, List.getElem?_range hi]
    exact ht

theorem elemAt_plainElem_bool {base : Nat} {sp : Nat → Bool} {held : Bool} {m : Nat} {v : Value} {z : DataW H × List MemPlace} (h : elemAt enc Try.prog W base sp held m 4 v = some z) : plainElem Try.prog 4 v = some z := by
  obtain ⟨b, rfl, rfl⟩ := elemAt_bool Try.underlying4 h
  exact plainElem_bool Try.underlying4 b

theorem plainElem_bool_inv' {v : Value} {z : DataW H × List MemPlace} (h : plainElem Try.prog 4 v = some z) : ∃ x, v = .bool x ∧ z = (.lit (.bool x), []) := by
  unfold plainElem at h
  rw [Try.underlying4] at h
  cases v <;> simp at h
  exact ⟨_, rfl, h.symm⟩

/-- a map[string]bool that came in: its length, and that each look-up answers a bool -/
theorem map_of_trod {fuel : Nat} {v : Value} {x : DataW H × List MemPlace} (h : DataW.trod enc Try.prog W 0 (fun _ => true) true fuel 24 [v] = some x) :
    ∃ sm L, v = .map sm ∧ L ≤ maxLen ∧ (∀ wx, Below W.heap.size W wx → ∀ ty, (Builtin.len_ #[24] ty #[.map sm]).run Try.prog wx = .ok (.int .i64 ((L : Nat) : Int)) wx) ∧
      (∀ wx, Below W.heap.size W wx → ∀ z, Bytes z → z.length ≤ maxLen → ∃ b, (Instr.lookup 24 (.map sm) (.string (strOfNums z)) false).run Try.prog wx = .ok (.bool b) wx) := by
  rcases open_map Try.underlying24 h with ⟨hcs, _⟩ | ⟨bm, es, clock, n, _, hcs, hb, _, F, _⟩
  · simp at hcs
    refine ⟨none, 0, hcs, Nat.zero_le _, fun wx _ ty => Maps.len_nil Try.underlying24 ty, fun wx _ z _ hz => ⟨false, ?_⟩⟩
    have := Maps.look_nil (w := wx) false law Try.underlying24 (zero4 wx) (keyOf_kl z hz)
    simpa using this
  · simp at hcs
    have hown := World.ownsMap_of_fit (R := plainElem Try.prog 4) hb F (fun x _ z hz => elemAt_plainElem_bool hz)
    have hsz := hown.size_le
    have hF := F.size
    have later : ∀ wx, Below W.heap.size W wx → wx.ownsMap Try.prog 9 (plainElem Try.prog 4) bm es.size (DataW.map ((es.toList.map (rg Try.prog 9 (elemAt enc Try.prog W 0 (fun _ => true) true n 4))).foldr DataW.insert [])) := by
      intro wx hbx
      have hlt := hown.lt
      obtain ⟨es', clock', hb', F', hs', hD'⟩ := hown
      exact ⟨es', clock', (hbx.block bm hlt).trans hb', F', hs', hD'⟩
    refine ⟨some bm, _, hcs, Nat.le_trans hsz hF, fun wx hbx ty => (later wx hbx).len Try.underlying24 ty, fun wx hbx z hzb hz => ?_⟩
    obtain ⟨u, ps, hrun, hv⟩ := (later wx hbx).lookup law Try.underlying24 (zero4 wx) (plainElem_bool Try.underlying4 false) (keyOf_kl z hz)
    obtain ⟨c, rfl, _⟩ := plainElem_bool_inv' hv
    exact ⟨c, hrun⟩
end
end Go.Proofs.Qxb6603095a.Wl
