import Derived.Test.Qxb6001662aMat2
namespace Go.Proofs.Qxb6001662a.Wl
open Go.RowKit
open Go.Proofs.Qxb6001662a.Bs
set_option linter.unusedVariables false

/-- row i, whole, and its name, in memory -/
theorem MatIn.row {w : World} {B n : Nat} {b off : Nat} {R : List (List ByteArray)} (h : MatIn w B (some ⟨b, off, none⟩) n R) (h2 : Two R) (i : Nat) (hi : i < n) :
    ∃ b1 o1 n1 c1, w.cell? ⟨b, off + i, none⟩ = some (.slice (some ⟨b1, o1, none⟩) n1 c1) ∧ (1 : Int) < (n1 : Int) ∧ n1 ≤ maxLen ∧ w.cell? ⟨b1, o1 + 1, none⟩ = some (.string (nm (R[i]?.getD []))) ∧ WordsIn w B (some ⟨b1, o1, none⟩) n1 (R[i]?.getD []) := by
  obtain ⟨hl, hp⟩ := h
  obtain ⟨b', off', e, _, hc⟩ := hp (by omega)
  cases e
  obtain ⟨ai, ni, ci, g, m, t⟩ := hc i hi
  have hn := h2 i (by omega)
  rw [t.1] at hn
  have t' := t
  obtain ⟨b1, o1, rfl, _, hcc⟩ := t.2.2 (by omega)
  exact ⟨b1, o1, ni, ci, g, by omega, m, hcc 1 (by omega), t'⟩

theorem ofSet_end (R : List (List ByteArray)) (n : Nat) (h : R.length ≤ n) (x : ByteArray) : ofSet (R.drop n) x = [] := by
  rw [List.drop_eq_nil_of_le h]; rfl

set_option maxRecDepth 100000 in
set_option maxHeartbeats 4000000 in
theorem sameSub_any (B : Nat) (a1 : Option Addr) (n1 c1 : Nat) (R1 : List (List ByteArray)) (a2 : Option Addr) (n2 c2 : Nat) (R2 : List (List ByteArray)) (x : ByteArray) (w : World) (hn1 : n1 ≤ 1048576) (hn2 : n2 ≤ 1048576) (hx : x.size ≤ maxLen)
    (h1 : MatIn w B a1 n1 R1) (h2 : MatIn w B a2 n2 R2) (t1 : Two R1) (t2 : Two R2) (he : ofSet R1 x = ofSet R2 x) :
    Calls Try.prog 42 #[.slice a1 n1 c1, .slice a2 n2 c2, .string x] w fun e w' => e = .returned (.bool true) ∧ Drawn w w' := by
  have H1 := hidIt h1
  have H2 := hidIt h2
  have T1 := hidIt t1
  have T2 := hidIt t2
  have HE := hidIt he
  clear h1 h2 t1 t2 he
  unfold maxLen at hx
  go_enter Try.func42, Try.ntmps42
  go_wp2
  go_loopw [7, 8] (fun p q wr => ∃ i j : Nat, i ≤ n1 ∧ j ≤ n2 ∧ p = .int .i64 i ∧ q = .int .i64 j ∧ Hid (ofSet (R1.drop i) x = ofSet (R2.drop j) x) ∧ Drawn w wr) (fun p q _ => (n1 - (intOf p).toNat) + (n2 - (intOf q).toNat))
  case atStart => exact ⟨0, 0, Nat.zero_le _, Nat.zero_le _, rfl, rfl, HE, Drawn.refl _⟩
  case round =>
    obtain ⟨i0, j0, hi0, hj0, rfl, rfl, HI0, hdr⟩ := hrel
    by_cases hend : ¬ i0 < n1 ∧ ¬ j0 < n2
    · obtain ⟨e1, e2⟩ := hend
      go_wp2
      go_ret
      exact ⟨rfl, hdr⟩
    · have hgo : Hid (i0 < n1 ∨ j0 < n2) := by show _ ∨ _; omega
      have key : ∀ i j : Nat, i0 ≤ i → j0 ≤ j → i < n1 → j < n2 → ofSet (R1.drop i) x = ofSet (R2.drop j) x → nm (R1[i]?.getD []) = x → nm (R2[j]?.getD []) = x → R1[i]?.getD [] = R2[j]?.getD [] ∧ ofSet (R1.drop (i + 1)) x = ofSet (R2.drop (j + 1)) x := by
        intro i j _ _ hi hj h e1 e2
        rw [ofSet_drop R1 i (by rw [H1.out.1]; exact hi), ofSet_drop R2 j (by rw [H2.out.1]; exact hj), if_pos e1, if_pos e2] at h
        exact ⟨(List.cons.inj h).1, (List.cons.inj h).2⟩
      have Key := hidIt key
      clear key
      by_cases hf : i0 < n1
      · go_wp2
        go_loop [7] (fun p => ∃ i : Nat, i0 ≤ i ∧ i ≤ n1 ∧ p = .int .i64 i ∧ Hid (ofSet (R1.drop i) x = ofSet (R2.drop j0) x)) (fun p => n1 - (intOf p).toNat)
        case atStart => exact ⟨i0, Nat.le_refl _, hi0, rfl, HI0⟩
        case round =>
          clear HI0
          obtain ⟨i, hi1, hi2, rfl, HI⟩ := hrel
          by_cases hli : i < n1
          · obtain ⟨b1, off1, rfl, _, _⟩ := H1.out.2 (by omega)
            obtain ⟨b3, o3, n3, c3, g1, l1, m1, f1⟩ := (H1.out.drawn hdr).name T1.out i hli
            unfold maxLen at m1
            have hin : (i : Int) < (n1 : Int) := by omega
            have hd := ofSet_drop R1 i (by rw [H1.out.1]; exact hli) x
            have hb1 := str_beq (nm (R1[i]?.getD [])) x
            by_cases e1 : nm (R1[i]?.getD []) = x
            · have E1 := hidIt e1
              rw [decide_eq_true e1] at hb1
              clear hd e1
              generalize hy : nm (R1[i]?.getD []) = y1 at f1 hb1
              have Hy := hidIt hy
              clear hy
              go_wp2
              clear g1 f1 hb1 l1 m1
              go_loop [8] (fun q => ∃ j : Nat, j0 ≤ j ∧ j ≤ n2 ∧ q = .int .i64 j ∧ Hid (ofSet (R1.drop i) x = ofSet (R2.drop j) x)) (fun q => n2 - (intOf q).toNat)
              case atStart => exact ⟨j0, Nat.le_refl _, hj0, rfl, HI⟩
              case round =>
                clear HI
                obtain ⟨j, hj1, hj2, rfl, HJ⟩ := hrel
                by_cases hlj : j < n2
                · obtain ⟨b2, off2, rfl, _, _⟩ := H2.out.2 (by omega)
                  obtain ⟨b4, o4, n4, c4, g2, l2, m2, f2, w4⟩ := (H2.out.drawn hdr).row T2.out j hlj
                  have hjn : (j : Int) < (n2 : Int) := by omega
                  have hd := ofSet_drop R2 j (by rw [H2.out.1]; exact hlj) x
                  have hb2 := str_beq (nm (R2[j]?.getD [])) x
                  by_cases e2 : nm (R2[j]?.getD []) = x
                  · obtain ⟨er, et⟩ := Key.out i j (by omega) hj1 hli hlj HJ.out E1.out e2
                    have HX' : Hid (ofSet (R1.drop (i + 1)) x = ofSet (R2.drop (j + 1)) x) := et
                    obtain ⟨b3, o3, n3, c3, g1, l1, m1, f1, w3⟩ := (H1.out.drawn hdr).row T1.out i hli
                    have en : n3 = n4 := by rw [← w3.1, ← w4.1, er]
                    subst en
                    rw [er] at w3
                    have HC : Hid (∀ nq, Calls Try.prog 60 #[.slice (some ⟨b3, o3, none⟩) n3 c3, .slice (some ⟨b4, o4, none⟩) n3 c4] (wr.drewN nq) fun e w' => e = .returned (.bool true) ∧ ∃ m, w' = (wr.drewN nq).drewN m) := fun nq =>
                      sameWords_any B _ n3 c3 _ _ c4 (wr.drewN nq) m1 (w3.drawn ⟨nq, rfl⟩) (w4.drawn ⟨nq, rfl⟩)
                    unfold maxLen at m1 m2
                    rw [decide_eq_true e2] at hb2
                    have hb1 : ((i : Int) == (n1 : Int)) = false := by rw [beq_eq_false_iff_ne]; omega
                    have hb3 : ((j : Int) == (n2 : Int)) = false := by rw [beq_eq_false_iff_ne]; omega
                    have hin : (i : Int) < (n1 : Int) := by omega
                    clear er et e2 hd HJ w3 w4 f1
                    generalize nm (R2[j]?.getD []) = y2 at *
                    go_wp2
                    go_quiet ((go_at_call 60; exact Calls.quiet_of (HC.out _)))
                    go_wp2
                    go_roundw
                    case rel => exact ⟨i + 1, j + 1, by omega, by omega, by go_num, by go_num, HX', hdr.more _⟩
                    case measure => simp [intOf]; omega
                  · rw [if_neg e2] at hd
                    have HJ' : Hid (ofSet (R1.drop i) x = ofSet (R2.drop (j + 1)) x) := by show _ = _; rw [HJ.out, hd]
                    rw [decide_eq_false e2] at hb2
                    unfold maxLen at m2
                    clear hd e2 HJ w4
                    generalize nm (R2[j]?.getD []) = y2 at *
                    go_wp2
                    go_round
                    case rel => exact ⟨j + 1, by omega, by omega, by go_num, HJ'⟩
                    case measure => simp [intOf]; omega
                · exfalso
                  have h1 := HJ.out
                  rw [ofSet_drop R1 i (by rw [H1.out.1]; exact hli), if_pos E1.out, ofSet_end R2 j (by rw [H2.out.1]; omega)] at h1
                  cases h1
            · rw [if_neg e1] at hd
              have HI' : Hid (ofSet (R1.drop (i + 1)) x = ofSet (R2.drop j0) x) := by show _ = _; rw [← HI.out, hd]
              rw [decide_eq_false e1] at hb1
              clear hd e1 HI
              generalize nm (R1[i]?.getD []) = y1 at *
              go_wp2
              go_round
              case rel => exact ⟨i + 1, by omega, by omega, by go_num, HI'⟩
              case measure => simp [intOf]; omega
          · have hin : i = n1 := by omega
            subst hin
            have HB : Hid ([] = ofSet (R2.drop j0) x) := by
              have h := HI.out
              rw [ofSet_end R1 i (by rw [H1.out.1]; exact Nat.le_refl _)] at h
              exact h
            clear HI
            go_wp2
            go_loop [8] (fun q => ∃ j : Nat, j0 ≤ j ∧ j ≤ n2 ∧ q = .int .i64 j ∧ Hid ([] = ofSet (R2.drop j) x)) (fun q => n2 - (intOf q).toNat)
            case atStart => exact ⟨j0, Nat.le_refl _, hj0, rfl, HB⟩
            case round =>
              obtain ⟨j, hj1, hj2, rfl, HJ⟩ := hrel
              by_cases hlj : j < n2
              · obtain ⟨b2, off2, rfl, _, _⟩ := H2.out.2 (by omega)
                obtain ⟨b4, o4, n4, c4, g2, l2, m2, f2⟩ := (H2.out.drawn hdr).name T2.out j hlj
                unfold maxLen at m2
                have hjn : (j : Int) < (n2 : Int) := by omega
                have hd := ofSet_drop R2 j (by rw [H2.out.1]; exact hlj) x
                have hb2 := str_beq (nm (R2[j]?.getD [])) x
                by_cases e2 : nm (R2[j]?.getD []) = x
                · exfalso
                  rw [if_pos e2, ← HJ.out] at hd
                  cases hd
                · rw [if_neg e2, ← HJ.out] at hd
                  have HJ' : Hid ([] = ofSet (R2.drop (j + 1)) x) := hd
                  rw [decide_eq_false e2] at hb2
                  clear hd e2 HJ
                  generalize nm (R2[j]?.getD []) = y2 at *
                  go_wp2
                  go_round
                  case rel => exact ⟨j + 1, by omega, by omega, by go_num, HJ'⟩
                  case measure => simp [intOf]; omega
              · have hjn : j = n2 := by omega
                subst hjn
                go_wp2
                go_ret
                exact ⟨rfl, hdr⟩
      · have hf2 : j0 < n2 := by omega
        go_wp2
        go_loop [7] (fun p => ∃ i : Nat, i0 ≤ i ∧ i ≤ n1 ∧ p = .int .i64 i ∧ Hid (ofSet (R1.drop i) x = ofSet (R2.drop j0) x)) (fun p => n1 - (intOf p).toNat)
        case atStart => exact ⟨i0, Nat.le_refl _, hi0, rfl, HI0⟩
        case round =>
          clear HI0
          obtain ⟨i, hi1, hi2, rfl, HI⟩ := hrel
          by_cases hli : i < n1
          · obtain ⟨b1, off1, rfl, _, _⟩ := H1.out.2 (by omega)
            obtain ⟨b3, o3, n3, c3, g1, l1, m1, f1⟩ := (H1.out.drawn hdr).name T1.out i hli
            unfold maxLen at m1
            have hin : (i : Int) < (n1 : Int) := by omega
            have hd := ofSet_drop R1 i (by rw [H1.out.1]; exact hli) x
            have hb1 := str_beq (nm (R1[i]?.getD [])) x
            by_cases e1 : nm (R1[i]?.getD []) = x
            · have E1 := hidIt e1
              rw [decide_eq_true e1] at hb1
              clear hd e1
              generalize hy : nm (R1[i]?.getD []) = y1 at f1 hb1
              have Hy := hidIt hy
              clear hy
              go_wp2
              clear g1 f1 hb1 l1 m1
              go_loop [8] (fun q => ∃ j : Nat, j0 ≤ j ∧ j ≤ n2 ∧ q = .int .i64 j ∧ Hid (ofSet (R1.drop i) x = ofSet (R2.drop j) x)) (fun q => n2 - (intOf q).toNat)
              case atStart => exact ⟨j0, Nat.le_refl _, hj0, rfl, HI⟩
              case round =>
                clear HI
                obtain ⟨j, hj1, hj2, rfl, HJ⟩ := hrel
                by_cases hlj : j < n2
                · obtain ⟨b2, off2, rfl, _, _⟩ := H2.out.2 (by omega)
                  obtain ⟨b4, o4, n4, c4, g2, l2, m2, f2, w4⟩ := (H2.out.drawn hdr).row T2.out j hlj
                  have hjn : (j : Int) < (n2 : Int) := by omega
                  have hd := ofSet_drop R2 j (by rw [H2.out.1]; exact hlj) x
                  have hb2 := str_beq (nm (R2[j]?.getD [])) x
                  by_cases e2 : nm (R2[j]?.getD []) = x
                  · obtain ⟨er, et⟩ := Key.out i j (by omega) hj1 hli hlj HJ.out E1.out e2
                    have HX' : Hid (ofSet (R1.drop (i + 1)) x = ofSet (R2.drop (j + 1)) x) := et
                    obtain ⟨b3, o3, n3, c3, g1, l1, m1, f1, w3⟩ := (H1.out.drawn hdr).row T1.out i hli
                    have en : n3 = n4 := by rw [← w3.1, ← w4.1, er]
                    subst en
                    rw [er] at w3
                    have HC : Hid (∀ nq, Calls Try.prog 60 #[.slice (some ⟨b3, o3, none⟩) n3 c3, .slice (some ⟨b4, o4, none⟩) n3 c4] (wr.drewN nq) fun e w' => e = .returned (.bool true) ∧ ∃ m, w' = (wr.drewN nq).drewN m) := fun nq =>
                      sameWords_any B _ n3 c3 _ _ c4 (wr.drewN nq) m1 (w3.drawn ⟨nq, rfl⟩) (w4.drawn ⟨nq, rfl⟩)
                    unfold maxLen at m1 m2
                    rw [decide_eq_true e2] at hb2
                    have hb1 : ((i : Int) == (n1 : Int)) = false := by rw [beq_eq_false_iff_ne]; omega
                    have hb3 : ((j : Int) == (n2 : Int)) = false := by rw [beq_eq_false_iff_ne]; omega
                    have hin : (i : Int) < (n1 : Int) := by omega
                    clear er et e2 hd HJ w3 w4 f1
                    generalize nm (R2[j]?.getD []) = y2 at *
                    go_wp2
                    go_quiet ((go_at_call 60; exact Calls.quiet_of (HC.out _)))
                    go_wp2
                    go_roundw
                    case rel => exact ⟨i + 1, j + 1, by omega, by omega, by go_num, by go_num, HX', hdr.more _⟩
                    case measure => simp [intOf]; omega
                  · rw [if_neg e2] at hd
                    have HJ' : Hid (ofSet (R1.drop i) x = ofSet (R2.drop (j + 1)) x) := by show _ = _; rw [HJ.out, hd]
                    rw [decide_eq_false e2] at hb2
                    unfold maxLen at m2
                    clear hd e2 HJ w4
                    generalize nm (R2[j]?.getD []) = y2 at *
                    go_wp2
                    go_round
                    case rel => exact ⟨j + 1, by omega, by omega, by go_num, HJ'⟩
                    case measure => simp [intOf]; omega
                · exfalso
                  have h1 := HJ.out
                  rw [ofSet_drop R1 i (by rw [H1.out.1]; exact hli), if_pos E1.out, ofSet_end R2 j (by rw [H2.out.1]; omega)] at h1
                  cases h1
            · rw [if_neg e1] at hd
              have HI' : Hid (ofSet (R1.drop (i + 1)) x = ofSet (R2.drop j0) x) := by show _ = _; rw [← HI.out, hd]
              rw [decide_eq_false e1] at hb1
              clear hd e1 HI
              generalize nm (R1[i]?.getD []) = y1 at *
              go_wp2
              go_round
              case rel => exact ⟨i + 1, by omega, by omega, by go_num, HI'⟩
              case measure => simp [intOf]; omega
          · have hin : i = n1 := by omega
            subst hin
            have HB : Hid ([] = ofSet (R2.drop j0) x) := by
              have h := HI.out
              rw [ofSet_end R1 i (by rw [H1.out.1]; exact Nat.le_refl _)] at h
              exact h
            clear HI
            go_wp2
            go_loop [8] (fun q => ∃ j : Nat, j0 ≤ j ∧ j ≤ n2 ∧ q = .int .i64 j ∧ Hid ([] = ofSet (R2.drop j) x)) (fun q => n2 - (intOf q).toNat)
            case atStart => exact ⟨j0, Nat.le_refl _, hj0, rfl, HB⟩
            case round =>
              obtain ⟨j, hj1, hj2, rfl, HJ⟩ := hrel
              by_cases hlj : j < n2
              · obtain ⟨b2, off2, rfl, _, _⟩ := H2.out.2 (by omega)
                obtain ⟨b4, o4, n4, c4, g2, l2, m2, f2⟩ := (H2.out.drawn hdr).name T2.out j hlj
                unfold maxLen at m2
                have hjn : (j : Int) < (n2 : Int) := by omega
                have hd := ofSet_drop R2 j (by rw [H2.out.1]; exact hlj) x
                have hb2 := str_beq (nm (R2[j]?.getD [])) x
                by_cases e2 : nm (R2[j]?.getD []) = x
                · exfalso
                  rw [if_pos e2, ← HJ.out] at hd
                  cases hd
                · rw [if_neg e2, ← HJ.out] at hd
                  have HJ' : Hid ([] = ofSet (R2.drop (j + 1)) x) := hd
                  rw [decide_eq_false e2] at hb2
                  clear hd e2 HJ
                  generalize nm (R2[j]?.getD []) = y2 at *
                  go_wp2
                  go_round
                  case rel => exact ⟨j + 1, by omega, by omega, by go_num, HJ'⟩
                  case measure => simp [intOf]; omega
              · have hjn : j = n2 := by omega
                subst hjn
                go_wp2
                go_ret
                exact ⟨rfl, hdr⟩
end Go.Proofs.Qxb6001662a.Wl
