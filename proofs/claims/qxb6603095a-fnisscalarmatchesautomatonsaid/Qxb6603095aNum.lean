import Derived.Test.Qxb6603095aNumStep
namespace Go.Proofs.Qxb6603095a.Wn
open Go.RowKit
open Go.Proofs.Qxb6603095a.Pl Go.Proofs.Qxb6603095a.Bs
set_option linter.unusedVariables false

/-- the slice (a, n) holds the bytes Z -/
def TextAt (w : World) (a : Option Addr) (n : Nat) (Z : List Int) : Prop :=
  Z.length = n ∧ (∀ i : Nat, 0 ≤ Z[i]?.getD 0 ∧ Z[i]?.getD 0 ≤ 255) ∧
  (0 < n → ∃ b off, a = some ⟨b, off, none⟩ ∧ ∀ i, i < n → w.cell? ⟨b, off + i, none⟩ = some (.int .u8 (Z[i]?.getD 0)))

theorem TextAt.drawn {w wr : World} {a : Option Addr} {n : Nat} {Z : List Int} (h : TextAt w a n Z) (hd : Drawn w wr) : TextAt wr a n Z := by
  obtain ⟨h1, h2, h3⟩ := h
  refine ⟨h1, h2, fun hp => ?_⟩
  obtain ⟨b, off, e, hc⟩ := h3 hp
  exact ⟨b, off, e, fun i hi => (hd.cell _).trans (hc i hi)⟩

theorem bytes9 (a : Option Addr) (n c : Nat) (hn : n ≤ maxLen) (w : World) :
    Calls Try.prog 9 #[.slice a n c] w fun e w' => e = .returned (.bool (decide (n ≤ 1048576))) ∧ w' = w := by
  unfold maxLen at hn
  by_cases h : n ≤ 1048576
  · rw [decide_eq_true h]
    go_enter Try.func9, Try.ntmps9
    go_wp2
    go_ret
    exact ⟨rfl, rfl⟩
  · rw [decide_eq_false h]
    go_enter Try.func9, Try.ntmps9
    go_wp2
    go_ret
    exact ⟨rfl, rfl⟩

theorem drop_cons_getD (L : List Int) (k : Nat) (hk : k < L.length) : L.drop k = L[k]?.getD 0 :: L.drop (k + 1) := by
  rw [List.drop_eq_getElem_cons hk, List.getElem?_eq_getElem hk]; rfl

/-! ### zzNumberAutomaton -/
theorem accB_neg (q : Int) (h : q < 0) : accB q = false := by
  unfold accB
  rw [beq_eq_false_iff_ne.2 (by omega), beq_eq_false_iff_ne.2 (by omega), beq_eq_false_iff_ne.2 (by omega), beq_eq_false_iff_ne.2 (by omega)]; rfl

set_option maxHeartbeats 1000000 in
theorem automaton_any (a : Option Addr) (n c : Nat) (Z : List Int) (w : World) (hn : n ≤ maxLen) (hT : TextAt w a n Z) :
    Calls Try.prog 11 #[.slice a n c] w fun e w' => e = .returned (.bool (autB Z)) ∧ w' = w := by
  obtain ⟨hl, hbd, hcell⟩ := hT
  unfold maxLen at hn
  have HL := hidIt hl
  have HBD := hidIt hbd
  have HC := hidIt hcell
  clear hl hbd hcell
  go_enter Try.func11, Try.ntmps11
  go_wp2
  go_loop [3, 4] (fun st i => ∃ (k : Nat) (q : Int), k ≤ n ∧ 0 ≤ q ∧ q ≤ 8 ∧ i = .int .i64 k ∧ st = .int .i64 q ∧ Hid (autB Z = accB (runL q (Z.drop k)))) (fun _ i => n - (intOf i).toNat)
  case atStart => exact ⟨0, 0, Nat.zero_le _, by omega, by omega, rfl, rfl, rfl⟩
  case round =>
    obtain ⟨k, q, hk, hq0, hq8, rfl, rfl, HI⟩ := hrel
    by_cases hlt : k < n
    · obtain ⟨b, off, rfl, hc⟩ := HC.out (by omega)
      have g := hc k hlt
      obtain ⟨b0, b1⟩ := HBD.out k
      have hdr := drop_cons_getD Z k (by rw [HL.out]; exact hlt)
      have HN := hidIt (fun wx => numStep_any q (Z[k]?.getD 0) wx hq0 hq8 b0 b1)
      obtain ⟨s0, s1⟩ := numStep_bd q (Z[k]?.getD 0)
      have HI2 : Hid (autB Z = if numStep q (Z[k]?.getD 0) < 0 then false else accB (runL (numStep q (Z[k]?.getD 0)) (Z.drop (k + 1)))) := by
        show _ = _
        rw [HI.out, hdr]
        simp only [runL]
        split
        · exact accB_neg _ (by omega)
        · rfl
      clear HI hdr hc HC
      generalize Z[k]?.getD 0 = x at *
      generalize numStep q x = q' at *
      by_cases hneg : q' < 0
      · have HF : Hid (autB Z = false) := by show _ = _; rw [HI2.out, if_pos hneg]
        clear HI2
        go_wp2_with (go_at_call 30; refine (HN.out _).mono ?_; rintro e w' ⟨rfl, rfl⟩)
        go_ret
        exact ⟨ret_bool HF.out.symm, rfl⟩
      · have HF : Hid (autB Z = accB (runL q' (Z.drop (k + 1)))) := by show _ = _; rw [HI2.out, if_neg hneg]
        clear HI2
        go_wp2_with (go_at_call 30; refine (HN.out _).mono ?_; rintro e w' ⟨rfl, rfl⟩)
        go_round
        case rel => exact ⟨k + 1, q', by omega, by omega, by omega, by go_num, rfl, HF⟩
        case measure => simp [intOf]; omega
    · have HF : Hid (autB Z = accB q) := by
        show _ = _
        rw [HI.out, List.drop_eq_nil_of_le (by rw [HL.out]; omega)]; rfl
      clear HI HC HBD
      have hq : q = 2 ∨ q = 3 ∨ q = 5 ∨ q = 8 ∨ (q ≠ 2 ∧ q ≠ 3 ∧ q ≠ 5 ∧ q ≠ 8) := by omega
      rcases hq with rfl | rfl | rfl | rfl | ⟨n1, n2, n3, n4⟩
      · go_wp2
        go_ret
        exact ⟨ret_bool HF.out.symm, rfl⟩
      · go_wp2
        go_ret
        exact ⟨ret_bool HF.out.symm, rfl⟩
      · go_wp2
        go_ret
        exact ⟨ret_bool HF.out.symm, rfl⟩
      · go_wp2
        go_ret
        exact ⟨ret_bool HF.out.symm, rfl⟩
      · have f2 : (q == 2) = false := beq_eq_false_iff_ne.2 n1
        have f3 : (q == 3) = false := beq_eq_false_iff_ne.2 n2
        have f5 : (q == 5) = false := beq_eq_false_iff_ne.2 n3
        have f8 : (q == 8) = false := beq_eq_false_iff_ne.2 n4
        have HG : Hid (autB Z = false) := by show _ = _; rw [HF.out]; simp [accB, f2, f3, f5, f8]
        clear HF
        go_wp2
        go_ret
        exact ⟨ret_bool HG.out.symm, rfl⟩
end Go.Proofs.Qxb6603095a.Wn
