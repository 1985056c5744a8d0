import Derived.Test.Qxb6001662aWords
import Derived.SliceStrings
import Derived.OpenShut
namespace Go.Proofs.Qxb6001662a.Wl
open Go.RowKit Go.ChangeShapes Go.WideShapes
open Go.Proofs.Qxb6001662a.Bs
set_option linter.unusedVariables false

section
variable {H : Type} {enc : TypeId × Value → H} {W : World}

/-- a []string that came in -/
theorem words_of_trod {fuel : Nat} {v : Value} {x : DataW H × List MemPlace} (h : DataW.trod enc Try.prog W 0 (fun _ => true) true fuel 32 [v] = some x) :
    ∃ a n c A, v = .slice a n c ∧ n ≤ c ∧ c ≤ maxLen ∧ WordsIn W W.heap.size a n A := by
  rcases open_strings Try.underlying32 Try.underlying9 (by kernel_rfl) h with ⟨hcs, _⟩ | ⟨ad, len, cap, zs, hcs, _, hl, hm, hz, _, hcell, hwz⟩
  · simp at hcs
    exact ⟨none, 0, 0, [], hcs, Nat.le_refl _, Nat.zero_le _, rfl, fun i => by simp, fun h => absurd h (by omega)⟩
  · simp at hcs hz
    refine ⟨some ad, len, cap, zs.take len, hcs, hl, hm, by simp; omega, ?_, fun hpos => ?_⟩
    · intro i
      by_cases hi : i < (zs.take len).length
      · have hmm : (zs.take len)[i] ∈ zs := List.mem_of_mem_take (List.getElem_mem hi)
        have hb := hwz _ hmm
        rw [List.getElem?_eq_getElem hi]
        exact hb
      · rw [List.getElem?_eq_none (by omega)]; exact Nat.zero_le _
    · obtain ⟨b, off, spot⟩ := ad
      have hspot : spot = none := by simpa [Addr.add] using World.cell?_spot (hcell 0 (by omega))
      subst hspot
      have hcell' : ∀ j, j < zs.length → W.cell? ⟨b, off + j, none⟩ = some (.string (zs.getD j ByteArray.empty)) := fun j hj => by rw [← add_plain]; exact hcell j hj
      refine ⟨b, off, rfl, World.block_lt_of_cell? _ _ (hcell' 0 (by omega)), fun i hi => ?_⟩
      rw [hcell' i (by omega), List.getElem?_take_of_lt hi]
      simp
end
end Go.Proofs.Qxb6001662a.Wl
