import Derived.Test.Qxb6603095aSize
namespace Go.Proofs.Qxb6603095a.Wl
open Go.RowKit Go.Maps Go.WideMaps
open Go.Proofs.Qxb6603095a.Pl Go.Proofs.Qxb6603095a.Bs
set_option linter.unusedVariables false

theorem slice_head (a : Option Addr) (n m c : Nat) (hm : m ≤ n) (hc : n ≤ c) :
    ∃ ao : Option Addr, (∀ wx, (Instr.slice 25 (.slice a n c) none (some (.int .i64 (m : Int))) none).run Try.prog wx = .ok (.slice ao m c) wx) ∧ ∀ w B K, ListIn w B a n K → ListIn w B ao m (K.take m) := by
  refine ⟨a, fun wx => ?_, fun w B K h => h.upto hm⟩
  have hs : (sizeOf (Try.prog.elem 25)).run Try.prog wx = .ok 1 wx := by kernel_rfl
  rw [run_slice_h (P := Try.prog) (w := wx) 25 a n c (by kernel_rfl) .i64 (m : Int) (by omega) (by omega), hs]
  cases a <;> simp [Result.andThen, sliced, Addr.add]

set_option maxRecDepth 100000 in
set_option maxHeartbeats 4000000 in
theorem fn6_main (aO : Option Addr) (n cO : Nat) (O : List (List Int)) (aS : Option Addr) (m cS : Nat) (S : List (List Int)) (w : World)
    (hn : n ≤ maxLen) (hm : m ≤ maxLen) (hO : ListIn w w.heap.size aO n O) (hS : ListIn w w.heap.size aS m S) :
    Calls Try.prog 6 #[.slice aO n cO, .slice aS m cS] w fun e w' => e = .returned (.bool true) ∧ Below w.heap.size w w' := by
  have heq := eqlMapNil
  have hneq := neqMapNil
  have HZ := hidIt (zzBytes22_any w.heap.size aO n cO O aS m cS S w hn hm hO hS)
  have HO := hidIt hO
  have HS := hidIt hS
  clear hO hS
  unfold maxLen at hn hm
  go_enter Try.func6, Try.ntmps6
  go_wp2_with fail
  refine HZ.out.mono ?_
  intro e w' h; obtain ⟨⟨b0, rfl⟩, h⟩ := h; rw [h]; clear h w' HZ
  cases b0 with
  | false =>
    go_wp2
    go_ret
    exact ⟨rfl, Below.refl _ _⟩
  | true =>
  by_cases hn1 : n ≤ 65536
  case neg =>
    go_wp2
    go_ret
    exact ⟨rfl, Below.refl _ _⟩
  by_cases hm1 : m ≤ 65536
  case neg =>
    go_wp2
    go_ret
    exact ⟨rfl, Below.refl _ _⟩
  have HT := hidIt (total_any w.heap.size aO n cO O (8 * (n : Int) + 8 * (m : Int)) w (by unfold maxLen; omega) (by omega) (by omega) HO.out)
  go_wp2_with fail
  refine HT.out.mono ?_
  intro e w' h; obtain ⟨⟨r, rfl, hr1, hr⟩, h⟩ := h; rw [h]; clear h w' HT
  by_cases hr0 : r < 0
  · clear hr
    go_wp2
    go_ret
    exact ⟨rfl, Below.refl _ _⟩
  have HOl := hidIt (hr (by omega)).2
  have hr8 := (hr (by omega)).1
  clear hr
  have HT2 := hidIt (total_any w.heap.size aS m cS S r w (by unfold maxLen; omega) (by omega) (by omega) HS.out)
  go_wp2_with fail
  refine HT2.out.mono ?_
  intro e w' h; obtain ⟨⟨r2, rfl, hr2, hrr⟩, h⟩ := h; rw [h]; clear h w' HT2
  by_cases hr3 : r2 < 0
  · clear hrr
    go_wp2
    go_ret
    exact ⟨rfl, Below.refl _ _⟩
  have HSl := hidIt (hrr (by omega)).2
  clear hrr
  have HC1 := hidIt (cloneList_any w.heap.size aO n cO O w hn1 (Nat.le_refl _) HO.out HOl.out)
  go_wp2_with fail
  refine HC1.out.mono ?_
  rintro e w1 ⟨aO1, rfl, hO1, hb1, _⟩
  have HO1 := hidIt hO1
  clear HC1 hO1
  have HC2 := hidIt (cloneList_any w.heap.size aS m cS S w1 hm1 hb1.size (HS.out.below hb1) HSl.out)
  go_wp2_with fail
  refine HC2.out.mono ?_
  rintro e w2 ⟨aS1, rfl, hS2, hb2, _⟩
  have HS2 := hidIt hS2
  clear HC2 hS2
  have HF := hidIt (flags_any w2.heap.size aS1 m m S w2 hm1 (Nat.le_refl _) HS2.out)
  have hdle := nDiff_le S
  rw [HS.out.1] at hdle
  go_wp2_with fail
  refine HF.out.mono ?_
  rintro e w3 ⟨g, rfl, hg, hrow, hb3⟩
  clear HF
  have HR := hidIt hrow
  have HO3 : Hid (ListIn w3 w3.heap.size aO1 n O) := ((HO1.out.below hb2).mono hb2.size |>.below hb3).mono hb3.size
  have HS3 : Hid (ListIn w3 w3.heap.size aS1 m S) := (HS2.out.below hb3).mono hb3.size
  have hB3 : Below w.heap.size w w3 := (hb1.trans (hb2.mono hb1.size)).trans (hb3.mono (Nat.le_trans hb1.size hb2.size))
  have HC4 := hidIt (cloneList_any w3.heap.size aO1 n n O w3 hn1 (Nat.le_refl _) HO3.out HOl.out)
  clear HO1 HS2 HO hrow hg hb1 hb2 hb3
  go_wp2_with fail
  refine HC4.out.mono ?_
  rintro e w4 ⟨aN, rfl, hN, hb4, hcl⟩
  have hOn := HO3.out.1
  have hSn := HS3.out.1
  have HI0 : Hid (Inv w3 w4 w3.heap.size O (S.take 0) (.slice aN n n) none) := by
    refine ⟨hb4, hb4.size, ?_, .inl ⟨rfl, by rw [List.take_zero]; exact Nat.zero_le _⟩⟩
    rw [List.take_zero, firsts_nil, List.append_nil]
    rcases hcl with ⟨rfl, hn0⟩ | ⟨rfl, hc⟩
    · have hK0 : O = [] := List.eq_nil_of_length_eq_zero (by omega)
      subst hK0
      subst hn0
      exact ⟨fun _ => False, ⟨[], ⟨rfl, .inl ⟨rfl, rfl⟩⟩, (fun k hk => by cases hk), (fun i hi => absurd hi (by simp))⟩, fun k h => h.elim⟩
    · exact ⟨_, hc.own hOn (by unfold maxLen; omega) _ (Nat.le_refl _), fun k hk => by rw [hk]; exact Nat.le_refl _⟩
  clear hcl hN HC4 hb4
  have HOn := hidIt hOn
  have HSn := hidIt hSn
  have HSb : Hid (∀ z ∈ S, Bytes z) := HS3.out.bytes
  clear hOn hSn
  generalize hd : nDiff S = d at *
  have Hd := hidIt hd
  clear hd
  go_wp2
  go_loopw [8, 9, 10, 11, 12, 13, 14] (fun v b f it s i ad wr => ∃ (k : Nat) (sm : Option Nat) (v8 : Value), v8 = v ∧ b = .bool true ∧ f = .int .i64 n ∧ it = .int .i64 0 ∧ s = .map sm ∧ k ≤ m ∧ i = .int .i64 k ∧ Hid (Inv w3 wr w3.heap.size O (S.take k) v8 sm)) (fun _ _ _ _ _ i _ _ => m - (intOf i).toNat)
  case atStart => exact ⟨0, none, _, rfl, rfl, rfl, rfl, rfl, Nat.zero_le _, rfl, HI0⟩
  case round =>
    obtain ⟨k, sm, v8, rfl, rfl, rfl, rfl, rfl, hk, rfl, HI⟩ := hrel
    clear HI0
    by_cases hlt : k < m
    · obtain ⟨b, off, rfl, _, hcl⟩ := (HS3.out.below HI.out.1).2 (by omega)
      obtain ⟨a1, n1, c1, g1, m1, t1⟩ := hcl k hlt
      have hSt := zzStep_any w3 wr w3.heap.size O (S.take k) _ sm a1 n1 c1 (S[k]?.getD []) HI.out (Nat.le_refl _) (by rw [HOn.out]; exact hn1) (by rw [List.length_take]; omega) (fun z hz => HSb.out z (List.mem_of_mem_take hz)) m1 t1 n HOn.out
      rw [← firstB_take S k (by rw [HSn.out]; exact hlt), ← take_snoc S k (by rw [HSn.out]; exact hlt)] at hSt
      have HSt := hidIt hSt
      clear hSt hcl t1
      unfold maxLen at m1
      have hlt' : (k : Int) < (m : Int) := by omega
      go_wp2_with fail
      refine HSt.out.mono ?_
      rintro e w5 ⟨out, sm', rfl, hI5⟩
      have HI5 := hidIt hI5
      have hfl : w5.cell? ⟨g, k, none⟩ = some (.bool (firstB S k)) := (HR.out.of_block (hI5.1.block g HR.out.lt)).cell hlt
      clear hI5 HSt g1
      generalize firstB S k = fb at *
      have hff : (fb != fb) = false := by cases fb <;> rfl
      go_wp2
      go_roundw
      case rel => exact ⟨k + 1, sm', _, rfl, rfl, rfl, rfl, rfl, by omega, by go_num, HI5⟩
      case measure => simp [intOf]; omega
    · have HIe : Hid (Inv w3 wr w3.heap.size O S v8 sm) := by
        have := HI.out
        rwa [List.take_of_length_le (by rw [HSn.out]; omega)] at this
      clear HI
      obtain ⟨bad, hOw, _⟩ := HIe.out.2.2.1
      obtain ⟨aV, cV, rfl, hcV, hLV⟩ := hOw.form
      have hlen : (O ++ firsts S).length = n + d := by rw [List.length_append, length_firsts, HOn.out, Hd.out]
      rw [hlen] at hcV hLV ⊢
      rw [hlen] at HIe
      obtain ⟨ah, hslh, hhead⟩ := slice_head aV (n + d) n cV (by omega) hcV
      have hS20 := sameList_any wr.heap.size ah n cV aO1 n n ((O ++ firsts S).take n) O wr (by unfold maxLen; omega) (by unfold maxLen; omega) (hhead _ _ _ hLV) ((HO3.out.below HIe.out.1).mono HIe.out.2.1)
      rw [decide_eq_true (show (O ++ firsts S).take n = O by rw [← HOn.out]; exact List.take_left)] at hS20
      have HS20 := hidIt hS20
      have HLV := hidIt hLV
      have bq : (((n + d : Nat) : Int) != (n : Int) + (d : Int)) = false := by simp
      clear hS20 hLV hhead hOw hlen
      go_wp2_with fail
      refine HS20.out.mono ?_
      rintro e w5 ⟨rfl, hd5⟩
      have HI5 := hidIt (HIe.out.drawn hd5)
      have HL5 : Hid (ListIn w5 w5.heap.size aV (n + d) (O ++ firsts S)) := (HLV.out.drawn hd5).mono (hd5.below 0).size
      clear HS20 HIe HLV bq hslh
      go_wp2
      go_loopw [15, 16] (fun j i wr => ∃ k : Nat, k ≤ m ∧ i = .int .i64 k ∧ j = .int .i64 ((n + nDiff (S.take k) : Nat) : Int) ∧ Drawn w5 wr) (fun _ i _ => m - (intOf i).toNat)
      case atStart => exact ⟨0, Nat.zero_le _, rfl, by rw [List.take_zero]; rfl, Drawn.refl _⟩
      case round =>
        clear hlt hk
        obtain ⟨k, hk, rfl, rfl, hdr⟩ := hrel
        have HI6 := hidIt (HI5.out.drawn hdr)
        by_cases hlt : k < m
        · have hfl : wr.cell? ⟨g, k, none⟩ = some (.bool (firstB S k)) := (HR.out.of_block (HI6.out.1.block g HR.out.lt)).cell hlt
          have hlt' : (k : Int) < (m : Int) := by omega
          have hnt := nDiff_take S k (by rw [HSn.out]; exact hlt)
          by_cases hfb : firstB S k = true
          · obtain ⟨hq1, hq2⟩ := firsts_at S k (by rw [HSn.out]; exact hlt) hfb
            rw [Hd.out] at hq1
            rw [hfb] at hfl hnt
            obtain ⟨b, off, rfl, _, hcl⟩ := (HS3.out.below HI6.out.1).2 (by omega)
            obtain ⟨a1, n1, c1, g1, m1, t1⟩ := hcl k hlt
            obtain ⟨b', off', rfl, _, hcl'⟩ := (HL5.out.drawn hdr).2 (by omega)
            generalize hqe : nDiff (S.take k) = q at *
            obtain ⟨a2, n2, c2, g2, m2, t2⟩ := hcl' (n + q) (by omega)
            have e2 : (O ++ firsts S)[n + q]?.getD [] = S[k]?.getD [] := by
              rw [List.getElem?_append_right (by rw [HOn.out]; omega), HOn.out, Nat.add_sub_cancel_left, hq2]; rfl
            rw [e2] at t2
            have HE : Hid (∀ nq, Calls Try.prog 18 #[.slice a2 n2 c2, .slice a1 n1 c1] (wr.drewN nq) fun e w' => e = .returned (.bool true) ∧ ∃ m, w' = (wr.drewN nq).drewN m) := by
              intro nq
              have h := equal_any (max wr.heap.size w5.heap.size) a2 n2 c2 a1 n1 c1 _ _ (wr.drewN nq) m2 m1 ((t2.mono (Nat.le_max_right _ _)).drawn ⟨nq, rfl⟩) ((t1.mono (Nat.le_trans HI6.out.2.1 (Nat.le_max_left _ _))).drawn ⟨nq, rfl⟩)
              rw [decide_eq_true rfl] at h
              exact h
            have Hnt := hidIt hnt
            have Hqe := hidIt hqe
            clear hcl hcl' t1 t2 e2 hq2 hfb hnt hqe
            unfold maxLen at m1 m2
            have hin : ((n + q : Nat) : Int) < ((n + d : Nat) : Int) := by omega
            have hin' : (n : Int) + (q : Int) < (n : Int) + (d : Int) := by omega
            go_wp2
            go_quiet ((go_at_call 18; exact Calls.quiet_of (HE.out _)))
            go_wp2
            go_roundw
            case rel => exact ⟨k + 1, by omega, by go_num, by rw [Hnt.out]; go_num, hdr.more _⟩
            case measure => simp [intOf]; omega
          · have hfb' : firstB S k = false := by simpa using hfb
            rw [hfb'] at hfl hnt
            have Hnt := hidIt hnt
            clear hfb hfb' hnt
            generalize hqe : nDiff (S.take k) = q at *
            go_wp2
            go_roundw
            case rel => exact ⟨k + 1, by omega, by go_num, by rw [Hnt.out]; rfl, hdr⟩
            case measure => simp [intOf]; omega
        · have hbe : Below w.heap.size w wr := hB3.trans (HI6.out.1.mono hB3.size)
          rcases HI6.out.2.2.2 with ⟨rfl, h16⟩ | ⟨M, rfl, h16, _, hSM⟩
          · rw [Hd.out] at h16
            have b16 : decide ((d : Int) ≤ 16) = true := decide_eq_true (by omega)
            go_wp2
            go_ret
            exact ⟨rfl, hbe⟩
          · rw [Hd.out] at h16
            have b16 : decide ((d : Int) ≤ 16) = false := decide_eq_false (by omega)
            have hfb : ∀ z ∈ firsts S, Bytes z := fun z hz => HSb.out z ((mem_firsts S z).1 hz)
            have hln := fun ty => hSM.len hfb ty
            rw [nDiff_firsts, Hd.out] at hln
            have HLk := hidIt (fun x hx hl => hSM.look hfb x hx hl)
            clear hSM hfb
            go_wp2
            go_loop [17] (fun i => ∃ k : Nat, k ≤ m ∧ i = .int .i64 k) (fun i => m - (intOf i).toNat)
            case atStart => exact ⟨0, Nat.zero_le _, rfl⟩
            case round =>
              clear hlt hk
              obtain ⟨k, hk, rfl⟩ := hrel
              by_cases hlt : k < m
              · obtain ⟨b, off, rfl, _, hcl⟩ := (HS3.out.below HI6.out.1).2 (by omega)
                obtain ⟨a1, n1, c1, g1, m1, t1⟩ := hcl k hlt
                have hconv := conv_any (c := c1) t1
                have hlk := HLk.out (S[k]?.getD []) t1.2.1 (by rw [t1.1]; exact m1)
                rw [contains_firsts, show S.contains (S[k]?.getD []) = true from List.contains_iff_mem.2 (by
                  rw [List.getElem?_eq_getElem (by rw [HSn.out]; exact hlt), Option.getD_some]; exact List.getElem_mem _)] at hlk
                clear hcl t1
                unfold maxLen at m1
                have hlt' : (k : Int) < (m : Int) := by omega
                generalize strOfNums (S[k]?.getD []) = sx at *
                go_wp2
                go_round
                case rel => exact ⟨k + 1, by omega, by go_num⟩
                case measure => simp [intOf]; omega
              · go_wp2
                go_ret
                exact ⟨rfl, hbe⟩
end Go.Proofs.Qxb6603095a.Wl
