import Derived.Test.Qxb6603095aClone
import Derived.Test.Qxb6603095aSortPl2
namespace Go.Proofs.Qxb6603095a.Wl
open Go.RowKit
open Go.Proofs.Qxb6603095a.Pl Go.Proofs.Qxb6603095a.Bs
set_option linter.unusedVariables false

/-- a row of indices -/
def IdxRow (w : World) (g n : Nat) (I : List Nat) : Prop := w.rowIs g 3 n (fun i => .int .i64 ((I[i]?.getD 0 : Nat) : Int))
theorem IdxRow.set {w : World} {g n : Nat} {I : List Nat} (h : IdxRow w g n I) (k x : Nat) (hk : k < I.length) : IdxRow (w.setCell ⟨g, k, none⟩ (.int .i64 (x : Int))) g n (I.set k x) := by
  refine (World.rowIs.set h k (.int .i64 (x : Int))).congr (fun i hi => ?_)
  by_cases e : i = k
  · subst e; simp [hk]
  · simp only [if_neg e]
    rw [List.getElem?_set_ne (fun h => e h.symm)]

set_option maxRecDepth 100000 in
set_option maxHeartbeats 4000000 in
theorem sort_any (B : Nat) (a : Option Addr) (n c : Nat) (A : List (List Int)) (w : World) (hn : n ≤ 65536) (hB : B ≤ w.heap.size) (hA : ListIn w B a n A) :
    Calls Try.prog 32 #[.slice a n c] w fun e w' => ∃ (g : Nat) (O : List Nat), e = .returned (.slice (some ⟨g, 0, none⟩) n n) ∧ w.heap.size ≤ g ∧ IdxRow w' g n O ∧ O.Perm (List.range n) ∧ O.Pairwise (fun a b => leB A a b = true) ∧ Below w.heap.size w w' := by
  have HA := hidIt hA
  clear hA
  have hmk := fun wx => run_make_row' (P := Try.prog) (w := wx) 40 3 (.int .i64 0) 8 Try.underlying40 info3 rfl .i64 .i64 n (by omega) (by omega)
  have HR0 := hidIt (World.rowIs_made w (.int .i64 0) n 3)
  generalize hG : w.heap.size = G at *
  have HG := hidIt hG
  go_enter Try.func32, Try.ntmps32
  go_wp2
  generalize hw0 : w.alloc (Obj.cells (madeCells #[Value.int IntKind.i64 0] n) 3) = w0 at *
  have hb0 : Below G w w0 := by rw [← hw0]; exact (Below.refl _ _).alloc (by omega) _
  clear hw0 hG
  go_loopw [5] (fun i wr => ∃ k : Nat, k ≤ n ∧ i = .int .i64 k ∧ Hid (wr.rowIs G 3 n (fun i => .int .i64 (if i < k then (i : Int) else 0))) ∧ Below G w wr) (fun i _ => n - (intOf i).toNat)
  case atStart => exact ⟨0, Nat.zero_le _, rfl, HR0.out.congr (fun i _ => by simp), hb0⟩
  case round =>
    obtain ⟨k, hk, rfl, HR, hnx⟩ := hrel
    clear hb0 HR0
    by_cases hlt : k < n
    · have gw := HR.out.cell hlt
      have gf := HR.out.frozen k
      have HR' : Hid ((wr.setCell ⟨G, k, none⟩ (.int .i64 (k : Int))).rowIs G 3 n (fun i => .int .i64 (if i < k + 1 then (i : Int) else 0))) := by
        refine (HR.out.set k (.int .i64 (k : Int))).congr (fun i hi => ?_)
        by_cases e : i = k
        · subst e; simp
        · simp only [if_neg e]
          by_cases h : i < k
          · rw [if_pos h, if_pos (by omega)]
          · rw [if_neg h, if_neg (by omega)]
      clear HR
      go_wp2
      go_roundw
      case rel => exact ⟨k + 1, by omega, by go_num, HR', hnx.setCell (by exact Nat.le_refl _) _⟩
      case measure => simp [intOf]; omega
    · have HI0 : Hid (IdxRow wr G n (List.range n)) := HR.out.congr (fun i hi => by rw [if_pos (by omega), range_get n i hi])
      have hGl : G < wr.heap.size := HI0.out.lt
      have HT0 := hidIt (World.rowIs_made wr (.int .i64 0) n 3)
      clear HR
      go_wp2
      generalize hw1 : wr.alloc (Obj.cells (madeCells #[Value.int IntKind.i64 0] n) 3) = w1 at *
      generalize hG2 : wr.heap.size = G2 at *
      have hb1 : Below G w w1 := by rw [← hw1]; exact hnx.alloc (by omega) _
      have HI1 : Hid (IdxRow w1 G n (List.range n)) := by rw [← hw1]; exact World.rowIs.alloc HI0.out _
      have HT1 : Hid (IdxRow w1 G2 n (List.replicate n 0)) := HT0.out.congr (fun i hi => by simp [hi])
      clear hw1 hG2 HI0 HT0 hnx
      go_loopw [4, 6, 7] (fun idx tmp wd wx => ∃ (gi gt W : Nat) (I T : List Nat), idx = .slice (some ⟨gi, 0, none⟩) n n ∧ tmp = .slice (some ⟨gt, 0, none⟩) n n ∧ wd = .int .i64 W ∧ 1 ≤ W ∧ W ≤ 131072 ∧ gi ≠ gt ∧ G ≤ gi ∧ G ≤ gt ∧
          Hid (I.Perm (List.range n) ∧ Runs A W I ∧ T.length = n) ∧ Hid (IdxRow wx gi n I ∧ IdxRow wx gt n T) ∧ Below G w wx) (fun _ _ wd _ => n - (intOf wd).toNat)
      case atStart => exact ⟨G, G2, 1, List.range n, List.replicate n 0, rfl, rfl, rfl, by omega, by omega, by omega, by omega, by omega, ⟨List.Perm.refl _, runs_one _ _, by simp⟩, ⟨HI1.out, HT1.out⟩, hb1⟩
      case round =>
        obtain ⟨gi, gt, W, I, T, rfl, rfl, rfl, hW1, hW2, hne, hgi, hgt, HI, HM, hnx⟩ := hrel
        clear hb1 HI1 HT1
        by_cases hWn : W < n
        · have hIl : I.length = n := by have := HI.out.1.length_eq; simpa using this
          have HIl := hidIt hIl
          clear hIl
          go_wp2
          go_loopw [8] (fun lo wy => ∃ (L m : Nat) (T : List Nat), lo = .int .i64 L ∧ L ≤ 400000 ∧ Hid (L = m * (2 * W) ∧ T.length = n ∧ (T.take L).Perm (I.take L) ∧ Runs A (2 * W) (T.take L)) ∧ Hid (IdxRow wy gi n I ∧ IdxRow wy gt n T) ∧ Below G w wy) (fun lo _ => n - (intOf lo).toNat)
          case atStart => exact ⟨0, 0, T, rfl, by omega, ⟨by omega, HI.out.2.2, by simp, fun m => by simp⟩, HM, hnx⟩
          case round =>
            obtain ⟨L, m, T', rfl, hL, HL, HM', hny⟩ := hrel
            clear hnx HM
            by_cases hLn : L < n
            · obtain ⟨mid, hmE⟩ : ∃ mid : Nat, mid = if (L : Int) + W < n then L + W else n := ⟨_, rfl⟩
              obtain ⟨hi, hhE⟩ : ∃ hi : Nat, hi = if (L : Int) + 2 * W < n then L + 2 * W else n := ⟨_, rfl⟩
              have hm1 : L < mid := by rw [hmE]; split <;> omega
              have hm2 : mid ≤ n := by rw [hmE]; split <;> omega
              have hh1 : mid ≤ hi := by rw [hmE, hhE]; split <;> split <;> omega
              have hh2 : hi ≤ n := by rw [hhE]; split <;> omega
              have HC1 : Hid (∀ wx, Calls Try.prog 40 #[.int .i64 ((L : Int) + (W : Int)), .int .i64 (n : Int)] wx fun e w' => e = .returned (.int .i64 (mid : Int)) ∧ w' = wx) := by
                intro wx
                refine (min_any ((L : Int) + (W : Int)) (n : Int) wx).mono ?_
                rintro e w' ⟨rfl, rfl⟩
                exact ⟨ret_int (by rw [hmE]; split <;> simp), rfl⟩
              have HC2 : Hid (∀ wx, Calls Try.prog 40 #[.int .i64 ((L : Int) + 2 * (W : Int)), .int .i64 (n : Int)] wx fun e w' => e = .returned (.int .i64 (hi : Int)) ∧ w' = wx) := by
                intro wx
                refine (min_any ((L : Int) + 2 * (W : Int)) (n : Int) wx).mono ?_
                rintro e w' ⟨rfl, rfl⟩
                exact ⟨ret_int (by rw [hhE]; split <;> simp), rfl⟩
              have HE := hidIt (And.intro hmE hhE)
              clear hmE hhE
              go_wp2_with fail
              refine (HC1.out _).mono ?_
              intro e w' h; obtain ⟨rfl, h⟩ := h; rw [h]; clear h w'
              go_wp2_with fail
              refine (HC2.out _).mono ?_
              intro e w' h; obtain ⟨rfl, h⟩ := h; rw [h]; clear h w'
              clear HC1 HC2
              go_wp2
              go_loopw [11, 12, 13] (fun i j kk wz => ∃ (p q k' : Nat) (out : List Nat), i = .int .i64 p ∧ j = .int .i64 q ∧ kk = .int .i64 k' ∧ L ≤ p ∧ p ≤ mid ∧ mid ≤ q ∧ q ≤ hi ∧ k' + mid ≤ p + q ∧ p + q ≤ k' + mid ∧
                  Hid (k' = L + out.length ∧ (cutL I L mid).merge (cutL I mid hi) (leB A) = out ++ (cutL I p mid).merge (cutL I q hi) (leB A)) ∧ Hid (IdxRow wz gi n I ∧ IdxRow wz gt n (T'.take L ++ out ++ T'.drop k')) ∧ Below G w wz)
                (fun _ _ kk _ => hi - (intOf kk).toNat)
              case atStart => exact ⟨L, mid, L, [], rfl, rfl, rfl, by omega, by omega, by omega, by omega, by omega, by omega, ⟨by simp, by simp⟩, ⟨HM'.out.1, by rw [List.append_nil, List.take_append_drop]; exact HM'.out.2⟩, hny⟩
              case round =>
                obtain ⟨p, q, k', out, rfl, rfl, rfl, hp1, hp2, hq1, hq2, hk1, hk2, HS, HM2, hnz⟩ := hrel
                clear hny HM'
                by_cases hkh : k' < hi
                · have hTl : (T'.take L ++ out ++ T'.drop k').length = n := by rw [mid_len _ _ _ _ HS.out.1 (by rw [HL.out.2.1]; omega)]; exact HL.out.2.1
                  have gw := HM2.out.2.cell (show k' < n by omega)
                  have gf := HM2.out.2.frozen k'
                  have gp := HM2.out.1.cell (show p < n by omega)
                  have gq : q < hi → wr.cell? ⟨gi, q, none⟩ = some (.int .i64 ((I[q]?.getD 0 : Nat) : Int)) := fun h => HM2.out.1.cell (show q < n by omega)
                  have HW : Hid (∀ x : Nat, ∀ wd, Drawn wr wd → IdxRow (wd.setCell ⟨gt, k', none⟩ (.int .i64 (x : Int))) gi n I ∧ IdxRow (wd.setCell ⟨gt, k', none⟩ (.int .i64 (x : Int))) gt n (T'.take L ++ (out ++ [x]) ++ T'.drop (k' + 1)) ∧ Below G w (wd.setCell ⟨gt, k', none⟩ (.int .i64 (x : Int)))) := by
                    intro x wd hd
                    have hd2 := hd.below (wr.heap.size)
                    have r1 : IdxRow wd gi n I := World.rowIs.of_block HM2.out.1 (hd2.block gi HM2.out.1.lt)
                    have r2 : IdxRow wd gt n (T'.take L ++ out ++ T'.drop k') := World.rowIs.of_block HM2.out.2 (hd2.block gt HM2.out.2.lt)
                    refine ⟨World.rowIs.setOther r1 (by exact hne) _, ?_, (hnz.trans (hd.below G)).setCell (by exact hgt) _⟩
                    rw [← set_mid T' out L k' x HS.out.1 (by rw [HL.out.2.1]; omega)]
                    exact r2.set k' x (by omega)
                  have hIlen := HIl.out
                  generalize hv0 : Value.int IntKind.i64 (((T'.take L ++ out ++ T'.drop k')[k']?.getD 0 : Nat) : Int) = v0 at *
                  clear hv0 hTl HM2
                  by_cases hqh : q = hi
                  · -- the right half is done
                    have HS2 : Hid (k' + 1 = L + (out ++ [I[p]?.getD 0]).length ∧ (cutL I L mid).merge (cutL I mid hi) (leB A) = (out ++ [I[p]?.getD 0]) ++ (cutL I (p + 1) mid).merge (cutL I q hi) (leB A)) := by
                      refine ⟨by rw [List.length_append, List.length_singleton]; have := HS.out.1; omega, ?_⟩
                      rw [HS.out.2, merge_left (leB A) I p mid q hi (by omega) (by omega) (by omega) hq2 (.inl hqh)]
                      simp
                    have hpm : p < mid := by omega
                    have b1 : decide (hi ≤ q) = true := decide_eq_true (by omega)
                    have b3 : hi ≤ q := by omega
                    have i1 : (p : Int) < (n : Int) := by omega
                    have i3 : (k' : Int) < (n : Int) := by omega
                    have HW := hidIt (HW.out (I[p]?.getD 0))
                    clear HS hqh gq hIlen
                    generalize I[p]?.getD 0 = x at *
                    go_wp2
                    go_quiet (fail)
                    go_wp2
                    go_roundw
                    case rel => exact ⟨p + 1, q, k' + 1, out ++ [x], by go_num, by go_num, by go_num, by omega, by omega, by omega, by omega, by omega, by omega, HS2, ⟨(HW.out _ ⟨nq, rfl⟩).1, (HW.out _ ⟨nq, rfl⟩).2.1⟩, (HW.out _ ⟨nq, rfl⟩).2.2⟩
                    case measure => simp [intOf]; omega
                  · have hqh' : q < hi := by omega
                    have gq' := gq hqh'
                    have b1 : decide (hi ≤ q) = false := decide_eq_false (by omega)
                    have i2 : (q : Int) < (n : Int) := by omega
                    have i3 : (k' : Int) < (n : Int) := by omega
                    clear gq
                    by_cases hpm : p < mid
                    · have b2 : decide (p < mid) = true := decide_eq_true (by omega)
                      have i1 : (p : Int) < (n : Int) := by omega
                      have HLs : Hid (∀ nq, Calls Try.prog 41 #[.slice a n c, .int .i64 ((I[q]?.getD 0 : Nat) : Int), .int .i64 ((I[p]?.getD 0 : Nat) : Int)] (wr.drewN nq) fun e w' => e = .returned (.bool (!leB A (I[p]?.getD 0) (I[q]?.getD 0))) ∧ ∃ m, w' = (wr.drewN nq).drewN m) := by
                        intro nq
                        exact less_any B a n c (I[q]?.getD 0) (I[p]?.getD 0) A (wr.drewN nq) (by unfold maxLen; omega) (perm_lt n I HI.out.1 q (by omega)) (perm_lt n I HI.out.1 p (by omega)) ((HA.out.below (hnz.mono (by have := HG.out; omega))).drawn ⟨nq, rfl⟩)
                      cases hle : leB A (I[p]?.getD 0) (I[q]?.getD 0) with
                      | true =>
                        have HS2 : Hid (k' + 1 = L + (out ++ [I[p]?.getD 0]).length ∧ (cutL I L mid).merge (cutL I mid hi) (leB A) = (out ++ [I[p]?.getD 0]) ++ (cutL I (p + 1) mid).merge (cutL I q hi) (leB A)) := by
                          refine ⟨by rw [List.length_append, List.length_singleton]; have := HS.out.1; omega, ?_⟩
                          rw [HS.out.2, merge_left (leB A) I p mid q hi (by omega) (by omega) (by omega) hq2 (.inr hle)]
                          simp
                        have HW := hidIt (HW.out (I[p]?.getD 0))
                        rw [hle] at HLs
                        clear HS hqh hIlen hle
                        generalize I[p]?.getD 0 = x at *
                        generalize I[q]?.getD 0 = y at *
                        go_wp2
                        go_quiet ((go_at_call 41; exact Calls.quiet_of (HLs.out _)))
                        go_wp2
                        go_roundw
                        case rel => exact ⟨p + 1, q, k' + 1, out ++ [x], by go_num, by go_num, by go_num, by omega, by omega, by omega, by omega, by omega, by omega, HS2, ⟨(HW.out _ ⟨nq, rfl⟩).1, (HW.out _ ⟨nq, rfl⟩).2.1⟩, (HW.out _ ⟨nq, rfl⟩).2.2⟩
                        case measure => simp [intOf]; omega
                      | false =>
                        have HS2 : Hid (k' + 1 = L + (out ++ [I[q]?.getD 0]).length ∧ (cutL I L mid).merge (cutL I mid hi) (leB A) = (out ++ [I[q]?.getD 0]) ++ (cutL I p mid).merge (cutL I (q + 1) hi) (leB A)) := by
                          refine ⟨by rw [List.length_append, List.length_singleton]; have := HS.out.1; omega, ?_⟩
                          rw [HS.out.2, merge_right (leB A) I p mid q hi hp2 (by omega) (by omega) hqh' (.inr hle)]
                          simp
                        have HW := hidIt (HW.out (I[q]?.getD 0))
                        rw [hle] at HLs
                        clear HS hqh hIlen hle
                        generalize I[p]?.getD 0 = x at *
                        generalize I[q]?.getD 0 = y at *
                        go_wp2
                        go_quiet ((go_at_call 41; exact Calls.quiet_of (HLs.out _)))
                        go_wp2
                        go_roundw
                        case rel => exact ⟨p, q + 1, k' + 1, out ++ [y], by go_num, by go_num, by go_num, by omega, by omega, by omega, by omega, by omega, by omega, HS2, ⟨(HW.out _ ⟨nq, rfl⟩).1, (HW.out _ ⟨nq, rfl⟩).2.1⟩, (HW.out _ ⟨nq, rfl⟩).2.2⟩
                        case measure => simp [intOf]; omega
                    · have b2 : decide (p < mid) = false := decide_eq_false (by omega)
                      have HS2 : Hid (k' + 1 = L + (out ++ [I[q]?.getD 0]).length ∧ (cutL I L mid).merge (cutL I mid hi) (leB A) = (out ++ [I[q]?.getD 0]) ++ (cutL I p mid).merge (cutL I (q + 1) hi) (leB A)) := by
                        refine ⟨by rw [List.length_append, List.length_singleton]; have := HS.out.1; omega, ?_⟩
                        rw [HS.out.2, merge_right (leB A) I p mid q hi hp2 (by omega) (by omega) hqh' (.inl (by omega))]
                        simp
                      have HW := hidIt (HW.out (I[q]?.getD 0))
                      clear HS hqh hIlen
                      generalize I[p]?.getD 0 = x at *
                      generalize I[q]?.getD 0 = y at *
                      go_wp2
                      go_quiet (fail)
                      go_wp2
                      go_roundw
                      case rel => exact ⟨p, q + 1, k' + 1, out ++ [y], by go_num, by go_num, by go_num, by omega, by omega, by omega, by omega, by omega, by omega, HS2, ⟨(HW.out _ ⟨nq, rfl⟩).1, (HW.out _ ⟨nq, rfl⟩).2.1⟩, (HW.out _ ⟨nq, rfl⟩).2.2⟩
                      case measure => simp [intOf]; omega
                · have hpm : p = mid := by omega
                  have hqh : q = hi := by omega
                  have hkk : k' = hi := by omega
                  have HD : Hid (L + 2 * W = (m + 1) * (2 * W) ∧ (T'.take L ++ out ++ T'.drop k').length = n ∧ ((T'.take L ++ out ++ T'.drop k').take (L + 2 * W)).Perm (I.take (L + 2 * W)) ∧ Runs A (2 * W) ((T'.take L ++ out ++ T'.drop k').take (L + 2 * W))) := by
                    have hS := HS.out.2
                    rw [cutL_nil I p mid (by omega), cutL_nil I q hi (by omega), List.nil_merge, List.append_nil] at hS
                    rw [hkk]
                    exact pass_done A W m n L mid hi I T' out (by omega) HL.out.1 hLn HIl.out HL.out.2.1 HE.out.1 HE.out.2 HI.out.2.1 HL.out.2.2.1 HL.out.2.2.2 hS
                  clear hpm hqh hkk HS HE HL
                  go_wp2
                  go_roundw
                  case rel => exact ⟨L + 2 * W, m + 1, T'.take L ++ out ++ T'.drop k', by go_num, by omega, HD, HM2, hnz⟩
                  case measure => simp [intOf]; omega
            · have HF : Hid (T'.Perm (List.range n) ∧ Runs A (W * 2) T' ∧ I.length = n) := by
                have h := HL.out
                rw [List.take_of_length_le (by omega), List.take_of_length_le (by rw [HIl.out]; omega)] at h
                exact ⟨h.2.2.1.trans HI.out.1, by rw [Nat.mul_comm]; exact h.2.2.2, HIl.out⟩
              clear HL
              go_wp2
              go_roundw
              case rel => exact ⟨gt, gi, W * 2, T', I, rfl, rfl, by go_num, by omega, by omega, by omega, by omega, by omega, HF, ⟨HM'.out.2, HM'.out.1⟩, hny⟩
              case measure => simp [intOf]; omega
        · have HF : Hid (I.Perm (List.range n) ∧ I.Pairwise (fun a b => leB A a b = true)) := by
            refine ⟨HI.out.1, ?_⟩
            have hl : I.length = n := by have := HI.out.1.length_eq; simpa using this
            have := HI.out.2.1 0
            rwa [Nat.zero_mul, List.drop_zero, List.take_of_length_le (by omega)] at this
          go_wp2
          go_ret
          exact ⟨gi, I, rfl, hgi, HM.out.1, HF.out.1, HF.out.2, hnx⟩
end Go.Proofs.Qxb6603095a.Wl
