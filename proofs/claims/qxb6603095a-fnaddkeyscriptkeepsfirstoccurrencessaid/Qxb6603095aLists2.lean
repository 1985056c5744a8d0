import Derived.Test.Qxb6603095aLists
namespace Go.Proofs.Qxb6603095a.Wl
open Go.RowKit
open Go.Proofs.Qxb6603095a.Pl Go.Proofs.Qxb6603095a.Bs
set_option linter.unusedVariables false

theorem min_any (x y : Int) (w : World) : Calls Try.prog 40 #[.int .i64 x, .int .i64 y] w fun e w' => e = .returned (.int .i64 (if x < y then x else y)) ∧ w' = w := by
  by_cases h : x < y
  · rw [if_pos h]
    go_enter Try.func40, Try.ntmps40
    go_wp2
    go_ret
    exact ⟨rfl, rfl⟩
  · rw [if_neg h]
    go_enter Try.func40, Try.ntmps40
    go_wp2
    go_ret
    exact ⟨rfl, rfl⟩

/-! ### zzLessIdx -/
set_option maxHeartbeats 1000000 in
theorem less_any (B : Nat) (a : Option Addr) (n c i j : Nat) (A : List (List Int)) (w : World) (hn : n ≤ maxLen) (hi : i < n) (hj : j < n) (hA : ListIn w B a n A) :
    Calls Try.prog 41 #[.slice a n c, .int .i64 i, .int .i64 j] w fun e w' => e = .returned (.bool (!leB A j i)) ∧ Drawn w w' := by
  obtain ⟨b, off, rfl, _, hcl⟩ := hA.2 (by omega)
  obtain ⟨a1, n1, c1, g1, m1, t1⟩ := hcl i hi
  obtain ⟨a2, n2, c2, g2, m2, t2⟩ := hcl j hj
  have HC : Hid (∀ nq, Calls Try.prog 43 #[.slice a1 n1 c1, .slice a2 n2 c2] (w.drewN nq) fun e w' => e = .returned (.int .i64 (cmpL (A[i]?.getD []) (A[j]?.getD []))) ∧ ∃ m, w' = (w.drewN nq).drewN m) := by
    intro nq
    exact compare_any B a1 n1 c1 a2 n2 c2 _ _ (w.drewN nq) m1 m2 (t1.drawn ⟨nq, rfl⟩) (t2.drawn ⟨nq, rfl⟩)
  have HR : Hid ((!leB A j i) = if cmpL (A[i]?.getD []) (A[j]?.getD []) ≠ 0 then decide (cmpL (A[i]?.getD []) (A[j]?.getD []) < 0) else decide ((i : Int) < (j : Int))) := by
    show _ = _
    unfold leB
    rw [cmp_swap (A[i]?.getD []) (A[j]?.getD [])]
    generalize cmpL (A[i]?.getD []) (A[j]?.getD []) = x
    by_cases h0 : x = 0
    · subst h0; rw [Bool.eq_iff_iff]; simp
    · rw [if_pos h0]
      by_cases h1 : x < 0
      · simp [h0, h1]; omega
      · have : 0 < x := by omega
        simp [h0, h1, this]
  generalize cmpL (A[i]?.getD []) (A[j]?.getD []) = x at *
  have i1 : (i : Int) < (n : Int) := by omega
  have i2 : (j : Int) < (n : Int) := by omega
  clear hcl hA t1 t2
  unfold maxLen at hn m1 m2
  by_cases h0 : x = 0
  · have HF : Hid ((!leB A j i) = decide ((i : Int) < (j : Int))) := by show _ = _; rw [HR.out, if_neg (fun h => h h0)]
    have e' : (x != 0) = false := by simp [h0]
    clear HR h0
    go_enter Try.func41, Try.ntmps41
    go_wp2
    go_quiet ((go_at_call 43; exact Calls.quiet_of (HC.out _)))
    go_wp2
    go_ret
    exact ⟨ret_bool (by rw [HF.out]; simp), Drawn.more (Drawn.refl _) _⟩
  · have HF : Hid ((!leB A j i) = decide (x < 0)) := by show _ = _; rw [HR.out, if_pos h0]
    have e' : (x != 0) = true := by simp [h0]
    clear HR h0
    go_enter Try.func41, Try.ntmps41
    go_wp2
    go_quiet ((go_at_call 43; exact Calls.quiet_of (HC.out _)))
    go_wp2
    go_ret
    exact ⟨ret_bool HF.out.symm, Drawn.more (Drawn.refl _) _⟩

/-! ### zzListTotal -/
set_option maxHeartbeats 1000000 in
theorem total_any (B : Nat) (a : Option Addr) (n c : Nat) (A : List (List Int)) (used : Int) (w : World) (hn : n ≤ maxLen) (hu0 : 0 ≤ used) (hu1 : used ≤ 1000000000000) (hA : ListIn w B a n A) :
    Calls Try.prog 14 #[.slice a n c, .int .i64 used] w fun e w' => (∃ r : Int, e = .returned (.int .i64 r) ∧ r ≤ 1048576 ∧ (0 ≤ r → used ≤ r ∧ ∀ i, i < n → (A[i]?.getD []).length ≤ 1048576)) ∧ w' = w := by
  have HA := hidIt hA
  clear hA
  unfold maxLen at hn
  by_cases hu : used ≤ 1048576
  · go_enter Try.func14, Try.ntmps14
    go_wp2
    go_loop [5, 6] (fun t i => ∃ (k : Nat) (T : Int), k ≤ n ∧ used ≤ T ∧ T ≤ 1048576 ∧ i = .int .i64 k ∧ t = .int .i64 T ∧ Hid (∀ i, i < k → (A[i]?.getD []).length ≤ 1048576)) (fun _ i => n - (intOf i).toNat)
    case atStart => exact ⟨0, used, Nat.zero_le _, Int.le_refl _, hu, rfl, rfl, fun i hi => absurd hi (by omega)⟩
    case round =>
      obtain ⟨k, T, hk, hT0, hT1, rfl, rfl, HI⟩ := hrel
      by_cases hlt : k < n
      · obtain ⟨b, off, rfl, _, hcl⟩ := HA.out.2 (by omega)
        obtain ⟨a1, n1, c1, g1, m1, t1⟩ := hcl k hlt
        have HN := hidIt t1.1
        clear hcl t1
        unfold maxLen at m1
        by_cases hb : (n1 : Int) ≤ 1048576 - T
        · have HI' : Hid (∀ i, i < k + 1 → (A[i]?.getD []).length ≤ 1048576) := by
            intro i hi
            by_cases ei : i = k
            · subst ei; rw [HN.out]; omega
            · exact HI.out i (by omega)
          clear HI HN
          go_wp2
          go_round
          case rel => exact ⟨k + 1, T + n1, by omega, by omega, by omega, by go_num, rfl, HI'⟩
          case measure => simp [intOf]; omega
        · clear HI HN
          go_wp2
          go_ret
          exact ⟨⟨-1, rfl, by omega, fun h => absurd h (by omega)⟩, rfl⟩
      · go_wp2
        go_ret
        exact ⟨⟨T, rfl, hT1, fun _ => ⟨hT0, fun i hi => HI.out i (by omega)⟩⟩, rfl⟩
  · go_enter Try.func14, Try.ntmps14
    go_wp2
    go_ret
    exact ⟨⟨-1, rfl, by omega, fun h => absurd h (by omega)⟩, rfl⟩
end Go.Proofs.Qxb6603095a.Wl
