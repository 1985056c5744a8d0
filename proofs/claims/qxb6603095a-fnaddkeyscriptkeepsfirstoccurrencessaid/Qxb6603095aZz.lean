import Derived.Test.Qxb6603095aAdd2
namespace Go.Proofs.Qxb6603095a.Wl
open Go.RowKit Go.Maps Go.WideMaps
open Go.Proofs.Qxb6603095a.Pl Go.Proofs.Qxb6603095a.Bs
set_option linter.unusedVariables false

theorem map_no_cell {w : World} {M : Nat} {S : List (List Int)} (h : SetIs w M S) (off : Nat) : w.cell? ⟨M, off, none⟩ = none := by
  obtain ⟨es, clock, hb, _⟩ := h
  simp [World.cell?, hb]
theorem TextOff.andMap {w : World} {bad : Nat → Prop} {a : Option Addr} {n M : Nat} {Z : List Int} {S : List (List Int)} (h : TextOff w bad a n Z) (hS : SetIs w M S) : TextOff w (fun k => bad k ∨ k = M) a n Z := by
  refine ⟨h.1, fun hp x e hh => ?_⟩
  rcases hh with hh | hh
  · exact h.2 hp x e hh
  · obtain ⟨b, off, e2, hl, hc⟩ := h.1.2.2 hp
    rw [e] at e2; cases e2
    have := hc 0 hp
    rw [show b = M from hh, map_no_cell hS] at this
    cases this
theorem TextOff.andNew {w : World} {bad : Nat → Prop} {a : Option Addr} {n : Nat} {Z : List Int} (h : TextOff w bad a n Z) : TextOff w (fun k => bad k ∨ w.heap.size ≤ k) a n Z := by
  refine ⟨h.1, fun hp x e hh => ?_⟩
  rcases hh with hh | hh
  · exact h.2 hp x e hh
  · obtain ⟨b, off, e2, hl, hc⟩ := h.1.2.2 hp
    rw [e] at e2; cases e2
    exact absurd hh (by exact Nat.not_le.2 hl)
theorem OwnList.change {w : World} {base : Nat} {v : Value} {bad bad' : Nat → Prop} {K : List (List Int)} (h : OwnList w base v bad K) (h1 : ∀ k, bad k → bad' k) (h2 : ∀ a n Z, TextOff w bad a n Z → TextOff w bad' a n Z) : OwnList w base v bad' K := by
  obtain ⟨xs, a, b, c⟩ := h
  refine ⟨xs, a, fun k hk => h1 k (b k hk), fun i hi => ?_⟩
  obtain ⟨ai, ni, ci, e1, e2, e3⟩ := c i hi
  exact ⟨ai, ni, ci, e1, e2, h2 _ _ _ e3⟩
theorem own_ne_map {w : World} {base M : Nat} {v : Value} {bad : Nat → Prop} {K S : List (List Int)} (h : OwnList w base v bad K) (hS : SetIs w M S) : v.ownBlock ≠ some M := by
  obtain ⟨xs, ⟨hl, h0 | ⟨g, cap, cur, rfl, hb, hh, _⟩⟩, _⟩ := h
  · rw [h0.1]; simp [Value.ownBlock]
  · intro e
    have e2 : g = M := Option.some.inj e
    obtain ⟨es, clock, hm, _⟩ := hS
    rw [e2, hm] at hh
    cases hh

/-- what ZZaddKey leaves -/
def AddPost (base f n : Nat) (sm : Option Nat) (v : Value) (bad : Nat → Prop) (K S : List (List Int)) (Z : List Int) (w w' : World) (out : Value) (added : Bool) (sm' : Option Nat) : Prop :=
  (Z ∈ K.drop f ∧ out = v ∧ added = false ∧ sm' = sm ∧ Keeps w w' (fun _ => False)) ∨
  (Z ∉ K.drop f ∧ added = true ∧ (∃ bad', OwnList w' base out bad' (K ++ [Z]) ∧ ∀ k, k < w.heap.size → bad' k → bad k ∨ some k = sm) ∧ (∀ aK cK, v = .slice aK n cK → cK < n + 1 → Keeps w w' (fun k => some k = sm)) ∧
    ((sm = none ∧ n - f < 16 ∧ sm' = none ∧ Keeps w w' (fun k => some k = v.ownBlock)) ∨
     (sm = none ∧ ¬ n - f < 16 ∧ (∃ M, sm' = some M ∧ SetIs w' M (K.drop f ++ [Z])) ∧ Keeps w w' (fun k => some k = v.ownBlock)) ∨
     (∃ M, sm = some M ∧ sm' = some M ∧ SetIs w' M (S ++ [Z]) ∧ Keeps w w' (fun k => some k = v.ownBlock ∨ k = M))))

set_option maxRecDepth 100000 in
set_option maxHeartbeats 2000000 in
/-- behind the call of addKey: the four fields are read and handed back -/
theorem zz_of (obj : Bool) (f it : Int) (sm : Option Nat) (v kv : Value) (w : World) (Post : Value → Bool → Option Nat → World → Prop)
    (h : Calls Try.prog 33 #[.pointer (some ⟨w.heap.size, 0, none⟩), v, kv] (w.alloc (.cells #[.bool obj, .int .i64 f, .int .i64 it, .map sm] 49)) fun e w' => ∃ out added sm', e = .returned (.tuple #[out, .bool added]) ∧ BoxAt w' w.heap.size obj f it sm' ∧ Post out added sm' w')
    (hd : ∀ out added sm' w1 w2, Post out added sm' w1 → Drawn w1 w2 → Post out added sm' w2) :
    Calls Try.prog 19 #[.bool obj, .int .i64 f, .int .i64 it, .map sm, v, kv] w fun e w' => ∃ out added sm', e = .returned (.tuple #[out, .bool added, .bool obj, .int .i64 f, .int .i64 it, .map sm']) ∧ Post out added sm' w' := by
  have HH := hidIt h
  have HD := hidIt hd
  clear h hd
  go_enter Try.func19, Try.ntmps19
  go_wp2_with (go_at_call 33; refine HH.out.mono ?_; rintro e w1 ⟨out, added, sm', rfl, ⟨c0, c1, c2, c3, fr⟩, hp⟩)
  have HP := hidIt hp
  clear hp HH
  generalize w.heap.size = p at *
  go_quiet (fail)
  go_wp2
  refine bodyPost_ret (v := .tuple #[out, .bool added, .bool obj, .int .i64 f, .int .i64 it, .map sm']) (by simp [results, Try.results19, go_sem]) rfl ⟨out, added, sm', rfl, ?_⟩
  exact HD.out _ _ _ _ _ HP.out ⟨_, rfl⟩
end Go.Proofs.Qxb6603095a.Wl
