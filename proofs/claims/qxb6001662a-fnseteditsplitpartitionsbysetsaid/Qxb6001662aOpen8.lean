import Derived.Test.Qxb6001662aMat
import Derived.Test.Qxb6001662aOpen
import Derived.Deep.Slices
import Derived.OpenShut
namespace Go.Proofs.Qxb6001662a.Wl
open Go.RowKit Go.ChangeShapes Go.WideShapes
open Go.Proofs.Qxb6001662a.Bs
set_option linter.unusedVariables false

section
variable {H : Type} {enc : TypeId × Value → H} {W : World}

/-- a [][]string that came in -/
theorem matrix_of_trod {fuel : Nat} {v : Value} {x : DataW H × List MemPlace} (h : DataW.trod enc Try.prog W 0 (fun _ => true) true fuel 30 [v] = some x) :
    ∃ a n c R, v = .slice a n c ∧ n ≤ c ∧ c ≤ maxLen ∧ MatIn W W.heap.size a n R := by
  rcases Deep.open_slice1 Try.underlying30 (by kernel_rfl) h with ⟨hcs, _⟩ | ⟨ad, len, cap, m, q, V, D, Pl, hcs, _, hl, hm, hmm, _, hV⟩
  · simp at hcs
    exact ⟨none, 0, 0, [], hcs, Nat.le_refl _, Nat.zero_le _, rfl, fun h => absurd h (by omega)⟩
  · simp at hcs hmm
    have hex : ∀ i, i < len → ∃ Z : List ByteArray, ∃ ai ni ci, V i = .slice ai ni ci ∧ ni ≤ maxLen ∧ WordsIn W W.heap.size ai ni Z := by
      intro i hi
      obtain ⟨a1, n1, c1, Z, e, h1, h2, h3⟩ := words_of_trod (hV i (by omega)).2
      exact ⟨Z, a1, n1, c1, e, Nat.le_trans h1 h2, h3⟩
    obtain ⟨Zf, hZf⟩ := Deep.choose_lt hex
    refine ⟨some ad, len, cap, (List.range len).map Zf, hcs, hl, hm, by simp, fun hpos => ?_⟩
    obtain ⟨b, off, spot⟩ := ad
    have hspot : spot = none := by simpa [Addr.add] using World.cell?_spot (hV 0 (by omega)).1
    subst hspot
    have hV' : ∀ j, j < m → W.cell? ⟨b, off + j, none⟩ = some (V j) := fun j hj => by rw [← add_plain]; exact (hV j hj).1
    refine ⟨b, off, rfl, World.block_lt_of_cell? _ _ (hV' 0 (by omega)), fun i hi => ?_⟩
    obtain ⟨ai, ni, ci, e, hmx, ht⟩ := hZf i hi
    refine ⟨ai, ni, ci, by rw [hV' i (by omega), e], hmx, ?_⟩
    rw [List.getElem?_map, List.getElem?_range hi]
    exact ht
end
end Go.Proofs.Qxb6001662a.Wl
