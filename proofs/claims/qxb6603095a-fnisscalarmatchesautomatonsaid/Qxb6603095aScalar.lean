import Derived.Test.Qxb6603095aWordB
import Derived.Deep.DeepCutAuto
import Derived.Deep.CutBlock
namespace Go.Proofs.Qxb6603095a.Wn
open Go.RowKit
open Go.Proofs.Qxb6603095a.Pl Go.Proofs.Qxb6603095a.Bs
set_option linter.unusedVariables false

theorem strOfNums_eq (Z : List Int) (hb : ∀ i : Nat, 0 ≤ Z[i]?.getD 0 ∧ Z[i]?.getD 0 ≤ 255) (l : List UInt8) : ((strOfNums Z).toList == l) = decide (Z = l.map fun c => (c.toNat : Int)) := by
  rw [ByteArray.toList_eq, strOfNums_data]
  have key : (Z.map fun n => UInt8.ofNat n.toNat) = l ↔ Z = l.map fun c => (c.toNat : Int) := by
    constructor
    · intro h
      rw [← h]
      apply List.ext_getElem (by simp)
      intro i h1 h2
      have := hb i
      rw [List.getElem?_eq_getElem h1] at this
      simp at this
      simp
      omega
    · intro h
      rw [h, List.map_map]
      apply List.ext_getElem (by simp)
      intro i h1 h2
      simp
  by_cases h : (Z.map fun n => UInt8.ofNat n.toNat) = l
  · rw [beq_iff_eq.2 h, decide_eq_true (key.1 h)]
  · rw [beq_eq_false_iff_ne.2 h, decide_eq_false (fun e => h (key.2 e))]

set_option maxRecDepth 100000 in
set_option maxHeartbeats 2000000 in
/-- the text is not empty and is none of the three words -/
theorem isScalar_num (b off n c : Nat) (Z : List Int) (w : World) (hn : n ≤ maxLen) (hp : 0 < n) (hT : TextAt w (some ⟨b, off, none⟩) n Z) (hw : wordB Z = false) :
    Calls Try.prog 31 #[.slice (some ⟨b, off, none⟩) n c] w fun e w' => e = .returned (.bool (numL Z)) ∧ w' = w := by
  have HT := hidIt hT
  obtain ⟨hl, hbd, hcell⟩ := hT
  have hc : ∀ i, i < n → w.cell? ⟨b, off + i, none⟩ = some (.int .u8 (Z[i]?.getD 0)) := by
    obtain ⟨b', off', e, h⟩ := hcell hp
    simp at e
    obtain ⟨rfl, rfl⟩ := e
    exact h
  clear hcell
  have hconv : (convert 22 9 (.slice (some ⟨b, off, none⟩) n c)).run Try.prog w = .ok (.string (strOfNums Z)) w :=
    run_convert_bytes_arg w 22 5 Try.underlying22 Try.underlying5 b off n c Z hl (fun i hi => by rw [hc i hi]; simp) 9 Try.underlying9
  have f1 : ((strOfNums Z).toList == [116, 114, 117, 101]) = false := by
    rw [strOfNums_eq Z hbd]; unfold wordB at hw; simp at hw; simpa using hw.1.1
  have f2 : ((strOfNums Z).toList == [102, 97, 108, 115, 101]) = false := by
    rw [strOfNums_eq Z hbd]; unfold wordB at hw; simp at hw; simpa using hw.1.2
  have f3 : ((strOfNums Z).toList == [110, 117, 108, 108]) = false := by
    rw [strOfNums_eq Z hbd]; unfold wordB at hw; simp at hw; simpa using hw.2
  have HC := hidIt hc
  have HL := hidIt hl
  have HBD := hidIt hbd
  clear hc hl hbd hw
  unfold maxLen at hn
  go_enter Try.func31, Try.ntmps31
  have g0 : w.cell? ⟨b, off, none⟩ = some (.int .u8 (Z[0]?.getD 0)) := HC.out 0 hp
  have HI0 : Hid (numL Z = if Z[0]?.getD 0 = 45 then intL (Z.drop 1) else intL (Z.drop 0)) := by
    show _ = _
    have := drop_cons_getD Z 0 (by rw [HL.out]; exact hp)
    rw [List.drop_zero] at this ⊢
    conv => lhs; rw [this]
    simp only [numL]
    split
    · rfl
    · rw [← this]
  generalize Z[0]?.getD 0 = x0 at *
  go_upto_if 21 with fail
  go_cut [3] (fun i wx => w = wx ∧ ∃ p : Nat, p ≤ 1 ∧ p ≤ n ∧ i = .int .i64 p ∧ Hid (numL Z = intL (Z.drop p)))
  case first =>
    by_cases hx : x0 = 45
    · have HI1 : Hid (numL Z = intL (Z.drop 1)) := by show _ = _; rw [HI0.out, if_pos hx]
      clear HI0
      go_wp2
      go_meet
      case rel => exact ⟨rfl, 1, by omega, by omega, by go_num, HI1⟩
    · have HI1 : Hid (numL Z = intL (Z.drop 0)) := by show _ = _; rw [HI0.out, if_neg hx]
      clear HI0
      go_wp2
      go_meet
      case rel => exact ⟨rfl, 0, by omega, by omega, by go_num, HI1⟩
  case rest =>
    obtain ⟨rfl, p, hp1, hpn, rfl, HI1⟩ := hcut
    clear HI0 g0 hconv f1 f2 f3
    go_upto_block 1 with fail
    go_cut [3] (fun i wx => w = wx ∧ ∃ p : Nat, p ≤ n ∧ i = .int .i64 p ∧ Hid (numL Z = fracL (Z.drop p)))
    case first =>
      by_cases hlt : p < n
      · have g0 : w.cell? ⟨b, off + p, none⟩ = some (.int .u8 (Z[p]?.getD 0)) := HC.out p hlt
        have hdr := drop_cons_getD Z p (by rw [HL.out]; exact hlt)
        have HI2 : Hid (numL Z = if Z[p]?.getD 0 = 48 then fracL (Z.drop (p + 1)) else if 49 ≤ Z[p]?.getD 0 ∧ Z[p]?.getD 0 ≤ 57 then fracL (skipD (Z.drop p)) else false) := by
          show _ = _
          rw [HI1.out, hdr]
          simp only [intL]
          split
          · rfl
          · split
            · rw [show skipD (Z[p]?.getD 0 :: Z.drop (p + 1)) = skipD (Z.drop (p + 1)) from by simp only [skipD]; rw [if_pos (by omega)]]
            · rfl
        clear hdr HI1 HC
        generalize Z[p]?.getD 0 = x at *
        by_cases h48 : x = 48
        · have HI3 : Hid (numL Z = fracL (Z.drop (p + 1))) := by show _ = _; rw [HI2.out, if_pos h48]
          clear HI2
          go_wp2
          go_meet
          case rel => exact ⟨rfl, p + 1, by omega, by go_num, HI3⟩
        · have f48 : (x == 48) = false := beq_eq_false_iff_ne.2 h48
          by_cases h1 : 49 ≤ x
          · by_cases h2 : x ≤ 57
            · have HI3 : Hid (numL Z = fracL (skipD (Z.drop p))) := by show _ = _; rw [HI2.out, if_neg h48, if_pos ⟨h1, h2⟩]
              clear HI2
              have HD := hidIt (digitsEnd_any (some ⟨b, off, none⟩) n c p Z w (by unfold maxLen; omega) (by omega) HT.out)
              go_wp2_with (go_at_call 39; refine HD.out.mono ?_; intro e w' h; obtain ⟨j, rfl, hj1, hj2, hj3, hj4, h⟩ := h; rw [h]; clear h w'; have HJ := hidIt (And.intro hj3 hj4); clear hj3 hj4)
              go_meet
              case rel => exact ⟨rfl, j, hj2, rfl, by show _ = _; rw [HI3.out, HJ.out.1]⟩
            · have HI3 : Hid (numL Z = false) := by show _ = _; rw [HI2.out, if_neg h48, if_neg (by omega)]
              clear HI2
              go_wp2
              go_ret
              exact ⟨ret_bool HI3.out.symm, rfl⟩
          · have HI3 : Hid (numL Z = false) := by show _ = _; rw [HI2.out, if_neg h48, if_neg (by omega)]
            clear HI2
            go_wp2
            go_ret
            exact ⟨ret_bool HI3.out.symm, rfl⟩
      · have HI3 : Hid (numL Z = false) := by
          show _ = _
          rw [HI1.out, List.drop_eq_nil_of_le (by rw [HL.out]; omega)]; rfl
        clear HI1 HC
        go_wp2
        go_ret
        exact ⟨ret_bool HI3.out.symm, rfl⟩
    case rest =>
      obtain ⟨rfl, q, hqn, rfl, HI2⟩ := hcut
      clear HI1
      by_cases hlt : q < n
      · have g0 : w.cell? ⟨b, off + q, none⟩ = some (.int .u8 (Z[q]?.getD 0)) := HC.out q hlt
        have hdr := drop_cons_getD Z q (by rw [HL.out]; exact hlt)
        have HI3 : Hid (numL Z = if Z[q]?.getD 0 = 46 then (if (skipD (Z.drop (q + 1))).length = (Z.drop (q + 1)).length then false else expL (skipD (Z.drop (q + 1)))) else expL (Z.drop q)) := by
          show _ = _
          rw [HI2.out, hdr]
          simp only [fracL]
        have HZ : Hid (∀ x, Z[q]?.getD 0 = x → Z[q + 1 - 1]?.getD 0 = x) := by intro x h; simpa using h
        clear hdr HI2
        generalize hx0 : Z[q]?.getD 0 = x at *
        have HZx := hidIt (HZ.out x rfl)
        clear hx0 HZ
        go_upto_if 70 with fail
        go_cut [3] (fun i wx => w = wx ∧ ∃ p : Nat, p ≤ n ∧ i = .int .i64 p ∧ Hid (numL Z = expL (Z.drop p)))
        case first =>
          by_cases h46 : x = 46
          · have HI4 : Hid (numL Z = (if (skipD (Z.drop (q + 1))).length = (Z.drop (q + 1)).length then false else expL (skipD (Z.drop (q + 1))))) := by show _ = _; rw [HI3.out, if_pos h46]
            clear HI3
            have hd0 := digitsEnd_any (some ⟨b, off, none⟩) n c (q + 1) Z w (by unfold maxLen; omega) (by omega) HT.out
            rw [show ((q + 1 : Nat) : Int) = (q : Int) + 1 from by omega] at hd0
            have HD := hidIt hd0
            clear hd0
            go_wp2_with fail
            refine HD.out.mono ?_
            intro e w' h
            obtain ⟨j, rfl, hj1, hj2, hj3, hj4, h⟩ := h
            rw [h]
            clear h w' HD
            by_cases hjq : j = q + 1
            · have HI5 : Hid (numL Z = false) := by
                show _ = _
                rw [HI4.out, if_pos (by rw [← hj3, hjq])]
              subst hjq
              clear HI4 hj3 hj4
              go_wp2
              go_ret
              exact ⟨ret_bool HI5.out.symm, rfl⟩
            · have HI5 : Hid (numL Z = expL (Z.drop j)) := by
                show _ = _
                rw [HI4.out, if_neg (by rw [← hj3]; simp [HL.out]; omega), hj3]
              have gj : w.cell? ⟨b, off + (j - 1), none⟩ = some (.int .u8 (Z[j - 1]?.getD 0)) := HC.out (j - 1) (by omega)
              obtain ⟨k1, k2⟩ := hj4 (by omega)
              clear HI4 hj3 hj4
              generalize Z[j - 1]?.getD 0 = y at *
              have fy : (y == 46) = false := beq_eq_false_iff_ne.2 (by omega)
              go_wp2
              go_meet
              case rel => exact ⟨rfl, j, hj2, rfl, HI5⟩
          · have HI4 : Hid (numL Z = expL (Z.drop q)) := by show _ = _; rw [HI3.out, if_neg h46]
            clear HI3
            have f46 : (x == 46) = false := beq_eq_false_iff_ne.2 h46
            go_wp2
            go_meet
            case rel => exact ⟨rfl, q, hqn, rfl, HI4⟩
        case rest =>
          obtain ⟨rfl, r, hrn, rfl, HI4⟩ := hcut
          clear HI3 HZx g0
          by_cases hltr : r < n
          · have g1 : w.cell? ⟨b, off + r, none⟩ = some (.int .u8 (Z[r]?.getD 0)) := HC.out r hltr
            have hdr := drop_cons_getD Z r (by rw [HL.out]; exact hltr)
            have HI5 : Hid (numL Z = if Z[r]?.getD 0 = 101 ∨ Z[r]?.getD 0 = 69 then expTail (skipSign (Z.drop (r + 1))) else false) := by
              show _ = _
              rw [HI4.out, hdr]
              simp only [expL]
            clear hdr HI4
            generalize Z[r]?.getD 0 = y at *
            by_cases hE : y = 101 ∨ y = 69
            · have HI6 : Hid (numL Z = expTail (skipSign (Z.drop (r + 1)))) := by show _ = _; rw [HI5.out, if_pos hE]
              clear HI5
              have hd1 : ∀ p : Nat, p ≤ n → Calls Try.prog 39 #[.slice (some ⟨b, off, none⟩) n c, .int .i64 p] w fun e w' => ∃ j : Nat, e = .returned (.int .i64 j) ∧ p ≤ j ∧ j ≤ n ∧ Hid (expTail (Z.drop p) = (decide (j ≠ p) && decide (j = n))) ∧ w' = w := by
                intro p hp
                refine (digitsEnd_any (some ⟨b, off, none⟩) n c p Z w (by unfold maxLen; omega) hp HT.out).mono ?_
                rintro e w' ⟨j, rfl, hj1, hj2, hj3, hj4, rfl⟩
                refine ⟨j, rfl, hj1, hj2, ?_, rfl⟩
                show _ = _
                unfold expTail
                rw [← hj3]
                simp only [List.length_drop, HL.out]
                have e1 : decide (n - j ≠ n - p) = decide (j ≠ p) := by
                  by_cases h : j = p
                  · simp [h]
                  · rw [decide_eq_true (by omega), decide_eq_true h]
                have e2 : (Z.drop j).isEmpty = decide (j = n) := by
                  by_cases h : j = n
                  · rw [decide_eq_true h, List.drop_eq_nil_of_le (by rw [HL.out]; omega)]; rfl
                  · rw [decide_eq_false h, drop_cons_getD Z j (by rw [HL.out]; omega)]; rfl
                rw [e1, e2]
              have HD := hidIt hd1
              clear hd1
              by_cases hlt2 : r + 1 < n
              · have g2 : w.cell? ⟨b, off + (r + 1), none⟩ = some (.int .u8 (Z[r + 1]?.getD 0)) := HC.out (r + 1) hlt2
                have hdr2 := drop_cons_getD Z (r + 1) (by rw [HL.out]; exact hlt2)
                have HI7 : Hid (numL Z = if Z[r + 1]?.getD 0 = 43 ∨ Z[r + 1]?.getD 0 = 45 then expTail (Z.drop (r + 1 + 1)) else expTail (Z.drop (r + 1))) := by
                  show _ = _
                  rw [HI6.out, hdr2]
                  simp only [skipSign]
                  split
                  · rfl
                  · rfl
                clear hdr2 HI6 HC HBD HT HL
                generalize Z[r + 1]?.getD 0 = z at *
                by_cases hS : z = 43 ∨ z = 45
                · have HI8 : Hid (numL Z = expTail (Z.drop (r + 1 + 1))) := by show _ = _; rw [HI7.out, if_pos hS]
                  clear HI7
                  rcases hE with rfl | rfl <;> rcases hS with rfl | rfl
                  all_goals
                    have hd2 := HD.out (r + 1 + 1) (by omega)
                    rw [show ((r + 1 + 1 : Nat) : Int) = (r : Int) + 1 + 1 from by omega] at hd2
                    have HD2 := hidIt hd2
                    clear hd2 HD
                    go_wp2_with fail
                    refine HD2.out.mono ?_
                    intro e w' h
                    obtain ⟨j, rfl, hj1, hj2, HJ, h⟩ := h
                    rw [h]
                    clear h w' HD2
                    by_cases hjp : j = r + 1 + 1
                    · have HF : Hid (numL Z = false) := by show _ = _; rw [HI8.out, HJ.out, decide_eq_false (fun h => h hjp)]; rfl
                      have hb1 : ((j : Int) == (r : Int) + 1 + 1) = true := beq_iff_eq.2 (by omega)
                      clear HJ HI8
                      go_wp2
                      go_ret
                      exact ⟨ret_bool HF.out.symm, rfl⟩
                    · have HF : Hid (numL Z = ((j : Int) == (n : Int))) := by
                        show _ = _
                        rw [HI8.out, HJ.out, decide_eq_true hjp, Bool.true_and]
                        by_cases h : j = n
                        · rw [decide_eq_true h, beq_iff_eq.2 (by omega)]
                        · rw [decide_eq_false h, beq_eq_false_iff_ne.2 (by omega)]
                      have hb1 : ((j : Int) == (r : Int) + 1 + 1) = false := beq_eq_false_iff_ne.2 (by omega)
                      clear HJ HI8
                      go_wp2
                      go_ret
                      exact ⟨ret_bool HF.out.symm, rfl⟩
                · have HI8 : Hid (numL Z = expTail (Z.drop (r + 1))) := by show _ = _; rw [HI7.out, if_neg hS]
                  have n1 : (z == 43) = false := beq_eq_false_iff_ne.2 (fun h => hS (.inl h))
                  have n2 : (z == 45) = false := beq_eq_false_iff_ne.2 (fun h => hS (.inr h))
                  clear HI7 hS
                  rcases hE with rfl | rfl
                  all_goals
                    have hd2 := HD.out (r + 1) (by omega)
                    rw [show ((r + 1 : Nat) : Int) = (r : Int) + 1 from by omega] at hd2
                    have HD2 := hidIt hd2
                    clear hd2 HD
                    go_wp2_with fail
                    refine HD2.out.mono ?_
                    intro e w' h
                    obtain ⟨j, rfl, hj1, hj2, HJ, h⟩ := h
                    rw [h]
                    clear h w' HD2
                    by_cases hjp : j = r + 1
                    · have HF : Hid (numL Z = false) := by show _ = _; rw [HI8.out, HJ.out, decide_eq_false (fun h => h hjp)]; rfl
                      have hb1 : ((j : Int) == (r : Int) + 1) = true := beq_iff_eq.2 (by omega)
                      clear HJ HI8
                      go_wp2
                      go_ret
                      exact ⟨ret_bool HF.out.symm, rfl⟩
                    · have HF : Hid (numL Z = ((j : Int) == (n : Int))) := by
                        show _ = _
                        rw [HI8.out, HJ.out, decide_eq_true hjp, Bool.true_and]
                        by_cases h : j = n
                        · rw [decide_eq_true h, beq_iff_eq.2 (by omega)]
                        · rw [decide_eq_false h, beq_eq_false_iff_ne.2 (by omega)]
                      have hb1 : ((j : Int) == (r : Int) + 1) = false := beq_eq_false_iff_ne.2 (by omega)
                      clear HJ HI8
                      go_wp2
                      go_ret
                      exact ⟨ret_bool HF.out.symm, rfl⟩
              · have HI7 : Hid (numL Z = expTail (Z.drop (r + 1))) := by
                  show _ = _
                  rw [HI6.out, List.drop_eq_nil_of_le (by rw [HL.out]; omega)]; rfl
                clear HI6 HC HBD HT HL
                rcases hE with rfl | rfl
                all_goals
                  have hd2 := HD.out (r + 1) (by omega)
                  rw [show ((r + 1 : Nat) : Int) = (r : Int) + 1 from by omega] at hd2
                  have HD2 := hidIt hd2
                  clear hd2 HD
                  go_wp2_with fail
                  refine HD2.out.mono ?_
                  intro e w' h
                  obtain ⟨j, rfl, hj1, hj2, HJ, h⟩ := h
                  rw [h]
                  clear h w' HD2
                  by_cases hjp : j = r + 1
                  · have HF : Hid (numL Z = false) := by show _ = _; rw [HI7.out, HJ.out, decide_eq_false (fun h => h hjp)]; rfl
                    have hb1 : ((j : Int) == (r : Int) + 1) = true := beq_iff_eq.2 (by omega)
                    clear HJ HI7
                    go_wp2
                    go_ret
                    exact ⟨ret_bool HF.out.symm, rfl⟩
                  · have HF : Hid (numL Z = ((j : Int) == (n : Int))) := by
                      show _ = _
                      rw [HI7.out, HJ.out, decide_eq_true hjp, Bool.true_and]
                      by_cases h : j = n
                      · rw [decide_eq_true h, beq_iff_eq.2 (by omega)]
                      · rw [decide_eq_false h, beq_eq_false_iff_ne.2 (by omega)]
                    have hb1 : ((j : Int) == (r : Int) + 1) = false := beq_eq_false_iff_ne.2 (by omega)
                    clear HJ HI7
                    go_wp2
                    go_ret
                    exact ⟨ret_bool HF.out.symm, rfl⟩
            · have HI6 : Hid (numL Z = false) := by show _ = _; rw [HI5.out, if_neg hE]
              have n1 : (y == 101) = false := beq_eq_false_iff_ne.2 (fun h => hE (.inl h))
              have n2 : (y == 69) = false := beq_eq_false_iff_ne.2 (fun h => hE (.inr h))
              have hqe : ((r : Int) == (n : Int)) = false := beq_eq_false_iff_ne.2 (by omega)
              clear HI5 HC hE
              go_wp2
              go_ret
              exact ⟨ret_bool HI6.out.symm, rfl⟩
          · have HI5 : Hid (numL Z = true) := by
              show _ = _
              rw [HI4.out, List.drop_eq_nil_of_le (by rw [HL.out]; omega)]; rfl
            have hqe : ((r : Int) == (n : Int)) = true := beq_iff_eq.2 (by omega)
            clear HI4 HC
            go_wp2
            go_ret
            exact ⟨ret_bool HI5.out.symm, rfl⟩
      · have HI3 : Hid (numL Z = true) := by
          show _ = _
          rw [HI2.out, List.drop_eq_nil_of_le (by rw [HL.out]; omega)]; rfl
        have hqe : ((q : Int) == (n : Int)) = true := beq_iff_eq.2 (by omega)
        clear HI2 HC
        go_wp2
        go_ret
        exact ⟨ret_bool HI3.out.symm, rfl⟩
end Go.Proofs.Qxb6603095a.Wn
