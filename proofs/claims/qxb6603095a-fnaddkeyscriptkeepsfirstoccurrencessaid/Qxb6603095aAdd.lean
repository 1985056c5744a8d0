import Derived.Test.Qxb6603095aOwn
namespace Go.Proofs.Qxb6603095a.Wl
open Go.RowKit Go.Maps Go.WideMaps
open Go.Proofs.Qxb6603095a.Pl Go.Proofs.Qxb6603095a.Bs
set_option linter.unusedVariables false

/-- the container in block p -/
structure BoxAt (w : World) (p : Nat) (obj : Bool) (f it : Int) (sm : Option Nat) : Prop where
  c0 : w.cell? ⟨p, 0, none⟩ = some (.bool obj)
  c1 : w.cell? ⟨p, 1, none⟩ = some (.int .i64 f)
  c2 : w.cell? ⟨p, 2, none⟩ = some (.int .i64 it)
  c3 : w.cell? ⟨p, 3, none⟩ = some (.map sm)
  fr : w.frozen? ⟨p, 3, none⟩ = false

theorem eqlMapNil (w : World) (r : Option Nat) : (binOp .eql 24 (.map r) (.map none)).run Try.prog w = .ok (.bool r.isNone) w := run_eql_map_nil w _ _ _ r Try.underlying24

set_option maxHeartbeats 1000000 in
/-- the object's keys are looked through: key is among them -/
theorem addKey_nil_dup (p : Nat) (obj : Bool) (f : Nat) (it : Int) (aK : Option Addr) (n cK : Nat) (K : List (List Int)) (ak : Option Addr) (mk ck : Nat) (Z : List Int) (w : World)
    (hbox : BoxAt w p obj f it none) (hK : ListIn w w.heap.size aK n K) (hnc : n ≤ cK) (hf : f ≤ n) (hn : n ≤ 1000000) (hZ : TextIn w w.heap.size ak mk Z) (hmem : Z ∈ K.drop f) :
    Calls Try.prog 33 #[.pointer (some ⟨p, 0, none⟩), .slice aK n cK, .slice ak mk ck] w fun e w' => e = .returned (.tuple #[.slice aK n cK, .bool false]) ∧ w' = w := by
  have heq := eqlMapNil
  obtain ⟨ao, hsl, hown⟩ := slice_from aK n cK f hf w _ K hnc hK
  obtain ⟨c0, c1, c2, c3, fr⟩ := hbox
  have HO := hidIt hown
  have HM := hidIt hmem
  have HZ := hidIt hZ
  clear hown hmem hZ hK
  go_enter Try.func33, Try.ntmps33
  go_wp2
  go_loop [26] (fun i => ∃ k : Nat, k ≤ n - f ∧ i = .int .i64 k ∧ Hid (∀ j, j < k → (K.drop f)[j]?.getD [] ≠ Z)) (fun i => (n - f) - (intOf i).toNat)
  case atStart => exact ⟨0, Nat.zero_le _, rfl, fun j hj => absurd hj (by omega)⟩
  case round =>
    obtain ⟨k, hk, rfl, HI⟩ := hrel
    by_cases hlt : k < n - f
    · obtain ⟨b, off, rfl, _, hcl⟩ := HO.out.2 (by omega)
      obtain ⟨a1, n1, c1', g1, m1, t1⟩ := hcl k hlt
      have HE := hidIt (bytesEqual_any w.heap.size a1 n1 c1' ak mk ck _ Z w t1 HZ.out)
      clear hcl t1
      unfold maxLen at m1
      by_cases e : (K.drop f)[k]?.getD [] = Z
      · rw [decide_eq_true e] at HE
        clear HI e
        go_wp2_with (go_at_call 42; refine HE.out.mono ?_; intro e w' h; obtain ⟨rfl, h⟩ := h; rw [h]; clear h w')
        go_ret2
        exact ⟨rfl, rfl⟩
      · have HI' : Hid (∀ j, j < k + 1 → (K.drop f)[j]?.getD [] ≠ Z) := by
          intro j hj
          by_cases ej : j = k
          · subst ej; exact e
          · exact HI.out j (by omega)
        rw [decide_eq_false e] at HE
        clear HI e
        go_wp2_with (go_at_call 42; refine HE.out.mono ?_; intro e w' h; obtain ⟨rfl, h⟩ := h; rw [h]; clear h w')
        go_round
        case rel => exact ⟨k + 1, by omega, by go_num, HI'⟩
        case measure => simp [intOf]; omega
    · exfalso
      obtain ⟨i, hi, e⟩ := List.getElem_of_mem HM.out
      have hl := HO.out.1
      apply HI.out i (by omega)
      rw [List.getElem?_eq_getElem hi, e]; rfl

set_option maxRecDepth 100000 in
set_option maxHeartbeats 2000000 in
/-- .. it is not, and there are fewer than sixteen -/
theorem addKey_nil_few (base p : Nat) (obj : Bool) (f : Nat) (it : Int) (aK : Option Addr) (n cK : Nat) (bad : Nat → Prop) (K : List (List Int)) (ak : Option Addr) (mk ck : Nat) (Z : List Int) (w : World)
    (hbox : BoxAt w p obj f it none) (hK : OwnList w base (.slice aK n cK) bad K) (hKn : K.length = n) (hB : base ≤ w.heap.size) (hf : f ≤ n) (hn : n ≤ 1000000) (hmk : mk ≤ maxLen) (hZ : TextOff w bad ak mk Z) (hmem : Z ∉ K.drop f) (h16 : n - f < 16) :
    Calls Try.prog 33 #[.pointer (some ⟨p, 0, none⟩), .slice aK n cK, .slice ak mk ck] w fun e w' => ∃ v', e = .returned (.tuple #[v', .bool true]) ∧ OwnList w' base v' (fun k => bad k ∨ w.heap.size ≤ k) (K ++ [Z]) ∧ Keeps w w' (fun k => some k = (Value.slice aK n cK).ownBlock) ∧ (cK < n + 1 → Keeps w w' (fun _ => False)) := by
  have heq := eqlMapNil
  subst hKn
  obtain ⟨aF, cF, eF, hnc, hL⟩ := hK.form
  cases eF
  obtain ⟨ao, hsl, hown⟩ := slice_from aK K.length cK f hf w _ K hnc hL
  obtain ⟨c0, c1, c2, c3, fr⟩ := hbox
  obtain ⟨i0, hi, hz0, hz1, hz2⟩ := info_parts info22
  obtain ⟨xs, hrow, hbad, hxs⟩ := hK
  have HO := hidIt hown
  have HM := hidIt hmem
  have HZ := hidIt hZ
  have HX := hidIt (And.intro hbad hxs)
  clear hown hmem hZ hL hbad hxs
  go_enter Try.func33, Try.ntmps33
  go_wp2
  go_loop [26] (fun i => ∃ k : Nat, k ≤ K.length - f ∧ i = .int .i64 k) (fun i => (K.length - f) - (intOf i).toNat)
  case atStart => exact ⟨0, Nat.zero_le _, rfl⟩
  case round =>
    obtain ⟨k, hk, rfl⟩ := hrel
    by_cases hlt : k < K.length - f
    · obtain ⟨b, off, rfl, _, hcl⟩ := HO.out.2 (by omega)
      obtain ⟨a1, n1, c1', g1, m1, t1⟩ := hcl k hlt
      have e : ¬ (K.drop f)[k]?.getD [] = Z := by
        intro e
        apply HM.out
        rw [← e, List.getElem?_eq_getElem (by rw [HO.out.1]; exact hlt)]
        exact List.getElem_mem _
      have HE := hidIt (bytesEqual_any w.heap.size a1 n1 c1' ak mk ck _ Z w t1 HZ.out.1)
      rw [decide_eq_false e] at HE
      clear hcl t1 e
      unfold maxLen at m1
      go_wp2_with (go_at_call 42; refine HE.out.mono ?_; intro e w' h; obtain ⟨rfl, h⟩ := h; rw [h]; clear h w')
      go_round
      case rel => exact ⟨k + 1, by omega, by go_num⟩
      case measure => simp [intOf]; omega
    · go_wp2_with (at_builtin; refine append_both rfl _ _ rfl base i0 hi hz0 hz1 hz2 aK K.length cK xs rfl (hrow.alloc _) ⟨w.heap.size, 0, none⟩ (.slice ak mk ck) rfl (cell_one_new _ _ _) (by intro u hu; simp at hu; subst hu; rfl) (by unfold maxLen; omega) (by omega) (by simp; omega) ?_; intro v' w1 hown1 hgrow1 hloc1 hfull1)
      have R := OwnList.append _ hrow HX.out.1 HX.out.2 hmk HZ.out hown1 hgrow1 hloc1
      have HFl : Hid (cK < K.length + 1 → Keeps w w1 (fun _ => False)) := fun hc => (Keeps.alloc _ _ _).trans ((Keeps.ofGrown (hfull1 hc)).mono (fun _ _ h => by cases h))
      clear hown1 hgrow1 hloc1 hrow HX hfull1
      go_wp2
      go_ret2
      exact ⟨v', rfl, R.1, R.2, HFl.out⟩
end Go.Proofs.Qxb6603095a.Wl
