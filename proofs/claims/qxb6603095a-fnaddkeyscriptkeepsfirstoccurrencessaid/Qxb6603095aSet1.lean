import Derived.Test.Qxb6603095aZz2
import Derived.Deep.DeepCutAuto
import Derived.Deep.CutBlock
namespace Go.Proofs.Qxb6603095a.Wl
open Go.RowKit Go.Maps Go.WideMaps
open Go.Proofs.Qxb6603095a.Pl Go.Proofs.Qxb6603095a.Bs
set_option linter.unusedVariables false

theorem neqMapNil (w : World) (r : Option Nat) : (binOp .neq 24 (.map r) (.map none)).run Try.prog w = .ok (.bool (!r.isNone)) w := run_neq_map_nil w _ _ _ r Try.underlying24

/-- a cloned list is the call's own -/
theorem Cloned.own {w : World} {G n : Nat} {A : List (List Int)} (h : Cloned w G n n A) (hA : A.length = n) (hn : n ≤ maxLen) (base : Nat) (hb : base ≤ G) : OwnList w base (.slice (some ⟨G, 0, none⟩) n n) (fun k => k = G) A := by
  obtain ⟨V, ⟨c, hh, hs, hc⟩, hV⟩ := h
  refine ⟨c.toList, ⟨by simp [hs, hA], .inr ⟨G, n, c, by rw [hA], hb, hh, by omega, hn, by omega, ?_⟩⟩, fun k hk => by cases hk; rfl, fun i hi => ?_⟩
  · rw [List.take_of_length_le (by simp [hs, hA])]
  · obtain ⟨a1, n1, c1, e1, m1, t1⟩ := hV i (by omega)
    refine ⟨a1, n1, c1, ?_, m1, t1.toIn, fun hp x e hh2 => ?_⟩
    · have := hc i (by omega)
      simp only [if_pos (show i < n by omega), e1] at this
      simpa using this
    · obtain ⟨b, off, e2, hG, _⟩ := t1.2.2 hp
      rw [e] at e2; cases e2
      exact absurd hh2 (by exact Nat.ne_of_gt hG)
end Go.Proofs.Qxb6603095a.Wl
