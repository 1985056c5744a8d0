import Derived.Test.Qxb6603095aSet1
namespace Go.Proofs.Qxb6603095a.Wl
open Go.RowKit Go.Maps Go.WideMaps
open Go.Proofs.Qxb6603095a.Pl Go.Proofs.Qxb6603095a.Bs
set_option linter.unusedVariables false

theorem OwnList.keepsMap {w w' : World} {base : Nat} {v : Value} {bad : Nat → Prop} {sm : Option Nat} {K : List (List Int)} (h : OwnList w base v bad K) (hk : Keeps w w' (fun k => some k = sm)) (hsm : sm = none ∨ ∃ M S, sm = some M ∧ SetIs w M S) :
    OwnList w' base v (fun k => bad k ∨ some k = sm) K := by
  rcases hsm with rfl | ⟨M, S, rfl, hS⟩
  · exact (h.keeps hk (fun _ _ h => by cases h) (fun _ _ h => by cases h)).change (fun k h => .inl h) (fun a n Z h => h.weaken (fun b _ h => by rcases h with h | h; exact h; cases h))
  · have h1 := h.change (bad' := fun k => bad k ∨ some k = some M) (fun k h => .inl h) (fun a n Z h => (h.andMap hS).weaken (fun b _ h => h.imp (fun h => h) (fun h => Option.some.inj h)))
    exact h1.keeps hk (fun b _ h => .inr h) (fun b hb h => own_ne_map h1 hS (by rw [hb, h]))
theorem TextOff.keepsMap {w w' : World} {bad : Nat → Prop} {sm : Option Nat} {a : Option Addr} {n : Nat} {Z : List Int} (h : TextOff w bad a n Z) (hk : Keeps w w' (fun k => some k = sm)) (hsm : sm = none ∨ ∃ M S, sm = some M ∧ SetIs w M S) :
    TextOff w' (fun k => bad k ∨ some k = sm) a n Z := by
  rcases hsm with rfl | ⟨M, S, rfl, hS⟩
  · exact (h.keeps hk (fun _ _ h => by cases h)).weaken (fun b _ h => by rcases h with h | h; exact h; cases h)
  · exact ((h.andMap hS).weaken (fun b _ h => h.imp (fun h => h) (fun h => Option.some.inj h))).keeps hk (fun b _ h => .inr h)

theorem slice_upto (b off n m c : Nat) (hm : m ≤ c) (w : World) : (Instr.slice 25 (.slice (some ⟨b, off, none⟩) n c) none (some (.int .i64 (m : Int))) none).run Try.prog w = .ok (.slice (some ⟨b, off, none⟩) m c) w := by
  have hs : (sizeOf (Try.prog.elem 25)).run Try.prog w = .ok 1 w := by kernel_rfl
  rw [run_slice_h (P := Try.prog) (w := w) 25 (some ⟨b, off, none⟩) n c (by kernel_rfl) .i64 (m : Int) (by omega) (by omega), hs]
  simp [Result.andThen, sliced, Addr.add]

set_option maxRecDepth 100000 in
set_option maxHeartbeats 4000000 in
theorem fn5_main (obj : Bool) (first : Int) (items : Int) (sm : Option Nat) (aK : Option Addr) (n cK : Nat) (K : List (List Int)) (ak : Option Addr) (mk ck : Nat) (Z : List Int) (w : World) (L : Nat)
    (hK : ListIn w w.heap.size aK n K) (hnc : n ≤ cK) (hn : n ≤ 65536) (hZ : TextIn w w.heap.size ak mk Z) (hmk : mk ≤ 1048576) (hL : L ≤ 65536)
    (hlen : ∀ wx, Below w.heap.size w wx → ∀ ty, (Builtin.len_ #[24] ty #[.map sm]).run Try.prog wx = .ok (.int .i64 (L : Int)) wx)
    (hlook : ∀ wx, Below w.heap.size w wx → ∀ x, Bytes x → x.length ≤ maxLen → ∃ b, (Instr.lookup 24 (.map sm) (.string (strOfNums x)) false).run Try.prog wx = .ok (.bool b) wx) :
    Calls Try.prog 5 #[.bool obj, .int .i64 first, .int .i64 items, .map sm, .slice aK n cK, .slice ak mk ck] w fun e w' => e = .returned (.bool true) ∧ Below w.heap.size w w' := by
  have heq := eqlMapNil
  have hneq := neqMapNil
  have hmm := makeMapHint
  have hlen0 := hlen w (Below.refl _ _)
  have HT := hidIt (total_any w.heap.size aK n cK K (8 * (n : Int) + (mk : Int)) w (by unfold maxLen; omega) (by omega) (by omega) hK)
  have HK := hidIt hK
  have HZ := hidIt hZ
  have HLen := hidIt hlen
  have HLook := hidIt hlook
  clear hK hZ hlen hlook
  go_enter Try.func5, Try.ntmps5
  go_wp2_with fail
  refine HT.out.mono ?_
  intro e w' h; obtain ⟨⟨r, rfl, hr1, hr⟩, h⟩ := h; rw [h]; clear h w' HT
  by_cases hr0 : r < 0
  · clear hr
    go_wp2
    go_ret
    exact ⟨rfl, Below.refl _ _⟩
  have HKl := hidIt (hr (by omega)).2
  clear hr
  by_cases hf0 : first < 0
  · go_wp2
    go_ret
    exact ⟨rfl, Below.refl _ _⟩
  by_cases hf1 : (n : Int) < first
  · go_wp2
    go_ret
    exact ⟨rfl, Below.refl _ _⟩
  obtain ⟨f, rfl⟩ := Int.eq_ofNat_of_zero_le (show 0 ≤ first by omega)
  have hf : f ≤ n := by omega
  obtain ⟨ao, hsl, hown⟩ := slice_from' aK n cK f hf hnc
  have HF := hidIt (flags_any w.heap.size ao (n - f) (cK - f) (K.drop f) w (by omega) (Nat.le_refl _) (hown _ _ _ HK.out))
  have HO := hidIt hown
  have hdle := nDiff_le (K.drop f)
  rw [List.length_drop, HK.out.1] at hdle
  clear hown hf0 hf1
  generalize hd : nDiff (K.drop f) = d at *
  have Hd := hidIt hd
  clear hd
  go_wp2_with fail
  refine HF.out.mono ?_
  rintro e w1 ⟨g, rfl, hg, _, hb1⟩
  clear HF
  have hlen1 := HLen.out w1 hb1
  clear hlen0
  go_upto_if 66 with fail
  go_cut [] (fun wx => w1 = wx)
  case first =>
    cases sm with
    | none =>
      go_wp2
      go_meet
      case rel => rfl
    | some M0 =>
      by_cases hLd : L = d
      · have b1 : ((L : Int) != (d : Int)) = false := by simp [hLd]
        have hLd' := hidIt hLd
        clear hLd
        go_wp2
        go_loop [15] (fun i => ∃ k : Nat, f ≤ k ∧ k ≤ n ∧ i = .int .i64 k) (fun i => n - (intOf i).toNat)
        case atStart => exact ⟨f, Nat.le_refl _, hf, rfl⟩
        case round =>
          obtain ⟨k, hk1, hk2, rfl⟩ := hrel
          by_cases hlt : k < n
          · obtain ⟨b, off, rfl, _, hcl⟩ := (HK.out.below hb1).2 (by omega)
            obtain ⟨a1, n1, c1, g1, m1, t1⟩ := hcl k hlt
            have hconv := conv_any (c := c1) t1
            obtain ⟨bb, hlk⟩ := HLook.out w1 hb1 (K[k]?.getD []) t1.2.1 (by rw [t1.1]; exact m1)
            clear hcl t1
            unfold maxLen at m1
            generalize strOfNums (K[k]?.getD []) = sx at *
            cases bb with
            | false =>
              go_wp2
              go_ret
              exact ⟨rfl, hb1⟩
            | true =>
              go_wp2
              go_round
              case rel => exact ⟨k + 1, by omega, by omega, by go_num⟩
              case measure => simp [intOf]; omega
          · go_wp2
            go_meet
            case rel => rfl
      · have b1 : ((L : Int) != (d : Int)) = true := by rw [bne_iff_ne]; omega
        go_wp2
        go_ret
        exact ⟨rfl, hb1⟩
  case rest =>
    subst hcut
    clear hlen1 HLook HLen
    have HC := hidIt (cloneList_any w.heap.size aK n cK K w1 hn hb1.size (HK.out.below hb1) HKl.out)
    go_wp2_with fail
    refine HC.out.mono ?_
    rintro e w2 ⟨aN, rfl, hN, hb2, hcl⟩
    clear HC HKl
    have hb12 : Below w.heap.size w w2 := hb1.trans (hb2.mono hb1.size)
    have hsz2 : w.heap.size ≤ w2.heap.size := hb12.size
    have hKn := HK.out.1
    obtain ⟨bad, hOwn, hbad⟩ : ∃ bad : Nat → Prop, OwnList w2 w1.heap.size (.slice aN n n) bad K ∧ ∀ k, bad k → k < w2.heap.size := by
      rcases hcl with ⟨rfl, hn0⟩ | ⟨rfl, hc⟩
      · have hK0 : K = [] := List.eq_nil_of_length_eq_zero (by omega)
        subst hK0
        subst hn0
        exact ⟨fun _ => False, ⟨[], ⟨rfl, .inl ⟨rfl, rfl⟩⟩, (fun k hk => by cases hk), (fun i hi => absurd hi (by simp))⟩, fun k h => h.elim⟩
      · refine ⟨_, hc.own hKn (by unfold maxLen; omega) _ (Nat.le_refl _), fun k hk => ?_⟩
        obtain ⟨V, hr, _⟩ := hc
        rw [hk]; exact hr.lt
    clear hcl
    have HOwn := hidIt hOwn
    clear hOwn
    have HC2 := hidIt (cloneBytes_any w.heap.size ak mk ck Z w2 hmk hsz2 (HZ.out.below hb12))
    go_wp2_with fail
    refine HC2.out.mono ?_
    rintro e w3 ⟨aZ, cZ, rfl, hZ3, hb3, _, hZn⟩
    clear HC2
    have hb13 : Below w.heap.size w w3 := hb12.trans (hb3.mono hsz2)
    have HOwn3 := hidIt (HOwn.out.keeps (Keeps.ofBelow hb3) (fun _ _ h => h.elim) (fun _ _ h => h))
    have HZ3 : Hid (TextOff w3 bad aZ mk Z) := ⟨hZ3, fun hp x e hh => by
      rw [hZn hp] at e
      cases e
      exact absurd (hbad _ hh) (Nat.lt_irrefl _)⟩
    have hsz3 : w1.heap.size ≤ w3.heap.size := Nat.le_trans hb2.size hb3.size
    clear hN hZ3 hZn HOwn HZ HK
    go_upto_if 91 with fail
    go_cut [3] (fun sv wx => ∃ sm2, sv = .map sm2 ∧ Keeps w3 wx (fun _ => False) ∧ (sm2 = none ∨ ∃ M, sm2 = some M ∧ w.heap.size ≤ M ∧ SetIs wx M (K.drop f)))
    case first =>
      cases sm with
      | none =>
        go_wp2
        go_meet
        case rel => exact ⟨none, rfl, Keeps.refl _ _, .inl rfl⟩
      | some M0 =>
        have HS0 := hidIt (SetIs.made w3)
        generalize hM : w3.heap.size = M at *
        have HM := hidIt hM
        go_wp2
        have kA : Hid (Keeps w3 (w3.alloc (.map #[] 0)) (fun b => b = M)) := Keeps.alloc _ _ _
        generalize w3.alloc (.map #[] 0) = w4 at *
        clear hM
        go_loopw [17] (fun i wr => ∃ k : Nat, f ≤ k ∧ k ≤ n ∧ i = .int .i64 k ∧ Hid (SetIs wr M ((K.drop f).take (k - f))) ∧ Hid (Keeps w3 wr (fun b => b = M))) (fun i _ => n - (intOf i).toNat)
        case atStart => exact ⟨f, Nat.le_refl _, hf, rfl, by rw [Nat.sub_self, List.take_zero]; exact HS0, kA⟩
        case round =>
          obtain ⟨k, hk1, hk2, rfl, HS, HKp⟩ := hrel
          clear HS0 kA
          by_cases hlt : k < n
          · have hOr := HOwn3.out.keeps HKp.out (fun b hb h => by have := HM.out; omega) (fun b hb h => by
              obtain ⟨xs, hr, _⟩ := HOwn3.out
              have := (hr.lt b hb).2
              have := HM.out; omega)
            obtain ⟨aF, cF, eF, _, hLr⟩ := hOr.form
            rw [hKn] at eF hLr
            cases eF
            obtain ⟨b, off, rfl, _, hcl⟩ := hLr.2 (by omega)
            obtain ⟨a1, n1, c1, g1, m1, t1⟩ := hcl k hlt
            have hconv := conv_any (c := c1) t1
            obtain ⟨w5, hup, hS5, hg5⟩ := HS.out.put (K[k]?.getD []) (by rw [t1.1]; exact m1) (by rw [List.length_take]; unfold maxLen; omega)
            have HS' : Hid (SetIs w5 M ((K.drop f).take (k + 1 - f))) := by
              show SetIs _ _ _
              rw [show k + 1 - f = (k - f) + 1 by omega, List.take_succ_eq_append_getElem (by rw [List.length_drop, hKn]; omega)]
              have e : K[k]?.getD [] = (K.drop f)[k - f]'(by rw [List.length_drop, hKn]; omega) := by
                rw [List.getElem_drop, List.getElem?_eq_getElem (by omega)]
                simp only [Option.getD_some]
                congr 1; omega
              rw [e] at hS5
              exact hS5
            have HK5 : Hid (Keeps w3 w5 (fun b => b = M)) := HKp.out.trans ((Keeps.ofGrown hg5).mono (fun k _ h => by cases h; rfl))
            clear hcl t1 hOr hLr hS5 hg5 HS HKp
            unfold maxLen at m1
            generalize strOfNums (K[k]?.getD []) = sx at *
            go_wp2
            go_roundw
            case rel => exact ⟨k + 1, by omega, by omega, by go_num, HS', HK5⟩
            case measure => simp [intOf]; omega
          · have HSe : Hid (SetIs wr M (K.drop f)) := by
              have := HS.out
              rwa [List.take_of_length_le (by rw [List.length_drop, hKn]; omega)] at this
            have HKe : Hid (Keeps w3 wr (fun _ => False)) := HKp.out.mono (fun b hb h => by have := HM.out; omega)
            go_wp2
            go_meet
            case rel => exact ⟨some M, rfl, HKe.out, .inr ⟨M, rfl, by have := HM.out; have := hb13.size; omega, HSe.out⟩⟩
    case rest =>
      obtain ⟨sm2, rfl, hkc, hsm2⟩ := hcut
      have hbc : Below w.heap.size w wc := hb13.trans (hkc.below _ hb13.size (fun _ _ h => h))
      have HOwn4 := hidIt (HOwn3.out.keeps hkc (fun _ _ h => h.elim) (fun _ _ h => h))
      have HZ4 := hidIt (HZ3.out.keeps hkc (fun _ _ h => h.elim))
      have hsz4 : w1.heap.size ≤ wc.heap.size := Nat.le_trans hsz3 hkc.size
      have Hsm := hidIt hsm2
      clear HOwn3 HZ3 hsm2 hkc hsl
      obtain ⟨ao2, hsl2, hown2⟩ := slice_from' aN n n f hf (Nat.le_refl _)
      have HO2 := hidIt hown2
      clear hown2
      have hLc : ListIn wc wc.heap.size aN n K := by
        obtain ⟨aF, cF, eF, _, h⟩ := HOwn4.out.form
        rw [hKn] at eF h
        cases eF
        exact h
      have HLc := hidIt hLc
      clear hLc
      have hol : (K.drop f).length = n - f := by rw [List.length_drop, hKn]
      have Hol := hidIt hol
      clear hol
      go_wp2
      go_loopw [19, 20] (fun dv i wr => ∃ k : Nat, k ≤ n - f ∧ i = .int .i64 k ∧ dv = .bool (((K.drop f).take k).contains Z) ∧ Drawn wc wr) (fun _ i _ => (n - f) - (intOf i).toNat)
      case atStart => exact ⟨0, Nat.zero_le _, rfl, by simp, Drawn.refl _⟩
      case round =>
        obtain ⟨k, hk, rfl, rfl, hdr⟩ := hrel
        by_cases hlt : k < n - f
        · obtain ⟨b, off, rfl, _, hcl⟩ := (HO2.out _ _ _ (HLc.out.drawn hdr)).2 (by omega)
          obtain ⟨a1, n1, c1, g1, m1, t1⟩ := hcl k hlt
          have HE := hidIt (equal_any wc.heap.size a1 n1 c1 aZ mk cZ _ Z wr m1 (by unfold maxLen; omega) t1 (HZ4.out.1.drawn hdr))
          have HN : Hid (((K.drop f).take (k + 1)).contains Z = (((K.drop f).take k).contains Z || decide ((K.drop f)[k]?.getD [] = Z))) := by
            show _ = _
            rw [List.take_succ_eq_append_getElem (by rw [Hol.out]; exact hlt), List.getElem?_eq_getElem (by rw [Hol.out]; exact hlt), Bool.eq_iff_iff]
            simp only [List.contains_iff_mem, List.mem_append, List.mem_singleton, Bool.or_eq_true, decide_eq_true_eq, Option.getD_some]
            exact ⟨fun h => h.imp (fun h => h) (fun h => h.symm), fun h => h.imp (fun h => h) (fun h => h.symm)⟩
          clear hcl t1
          unfold maxLen at m1
          generalize ((K.drop f).take k).contains Z = db at *
          generalize decide ((K.drop f)[k]?.getD [] = Z) = eb at *
          cases eb with
          | true =>
            go_wp2_with (go_at_call 18; refine HE.out.mono ?_; rintro e w' ⟨rfl, hd'⟩)
            go_roundw
            case rel => exact ⟨k + 1, by omega, by go_num, by rw [HN.out, Bool.or_true], hdr.trans hd'⟩
            case measure => simp [intOf]; omega
          | false =>
            go_wp2_with (go_at_call 18; refine HE.out.mono ?_; rintro e w' ⟨rfl, hd'⟩)
            go_roundw
            case rel => exact ⟨k + 1, by omega, by go_num, by rw [HN.out, Bool.or_false], hdr.trans hd'⟩
            case measure => simp [intOf]; omega
        · have htk : (K.drop f).take k = K.drop f := List.take_of_length_le (by rw [Hol.out]; omega)
          rw [htk]
          clear htk
          have HOd := hidIt (HOwn4.out.keeps (Keeps.drawn hdr (fun _ => False)) (fun _ _ h => h.elim) (fun _ _ h => h))
          have HZd := hidIt (HZ4.out.keeps (Keeps.drawn hdr (fun _ => False)) (fun _ _ h => h.elim))
          have hbd : Below w.heap.size w wr := hbc.trans (hdr.below _)
          have hszd : w1.heap.size ≤ wr.heap.size := Nat.le_trans hsz4 (hdr.below 0).size
          have Hsd : Hid (sm2 = none ∨ ∃ M, sm2 = some M ∧ w.heap.size ≤ M ∧ SetIs wr M (K.drop f)) := by
            rcases Hsm.out with h | ⟨M, h, hM, hS⟩
            · exact .inl h
            · exact .inr ⟨M, h, hM, hS.drawn hdr⟩
          have hKb : ∀ z ∈ K.drop f, Bytes z := fun z hz => HLc.out.bytes z (List.mem_of_mem_drop hz)
          have HKb := hidIt hKb
          clear hKb
          have HAd := hidIt (zzAddKey_any w1.heap.size obj f items sm2 aN n n bad K (K.drop f) aZ mk cZ Z wr HOd.out hKn hszd hf (by omega) (by unfold maxLen; omega) HZd.out (by
            rcases Hsd.out with h | ⟨M, h, _, hS⟩
            · exact .inl h
            · exact .inr ⟨M, h, hS, HKb.out, by rw [Hol.out]; omega, fun z => Iff.rfl⟩))
          clear HLc HOwn4 HZ4 Hsm hdr hbc hsz4
          go_wp2_with fail
          refine HAd.out.mono ?_
          rintro e w5 ⟨out, added, sm', rfl, hpost⟩
          clear HAd
          rcases hpost with ⟨hmem, rfl, rfl, rfl, hk5⟩ | ⟨hmem, rfl, ⟨bad', hOw, _⟩, hfull, hcase⟩
          · -- the key is there already
            have HO5 := hidIt (HOd.out.keeps hk5 (fun _ _ h => h.elim) (fun _ _ h => h))
            have hL5 : ListIn w5 w5.heap.size aN n K := by
              obtain ⟨aF, cF, eF, _, h⟩ := HO5.out.form
              rw [hKn] at eF h
              cases eF
              exact h
            have hb5 : Below w.heap.size w w5 := hbd.trans (hk5.below _ hbd.size (fun _ _ h => h))
            have hSL := sameList_any w5.heap.size aN n n aN n n K K w5 (by unfold maxLen; omega) (by unfold maxLen; omega) hL5 hL5
            rw [decide_eq_true rfl] at hSL
            have HSL := hidIt hSL
            have hdupE : (K.drop f).contains Z = true := List.contains_iff_mem.2 hmem
            rw [hdupE]
            rcases Hsd.out with rfl | ⟨M, rfl, _, hSM⟩
            · clear hSL hdupE hmem
              go_wp2_with (go_at_call 20; refine HSL.out.mono ?_; rintro e w6 ⟨rfl, hd6⟩)
              go_ret
              exact ⟨rfl, hb5.trans (hd6.below _)⟩
            · have HMS : Hid (∀ w6, Drawn w5 w6 → Calls Try.prog 21 #[.map (some M), .slice ao2 (n - f) (n - f), .int .i64 (d : Nat)] w6 fun e w' => e = .returned (.bool true) ∧ w' = w6) := by
                intro w6 hd6
                rw [← Hd.out]
                exact mapIsSet_any w5.heap.size M (K.drop f) ao2 (n - f) (n - f) (K.drop f) w6 (by unfold maxLen; omega) ((hSM.of_block (hk5.block M hSM.lt (fun h => h))).drawn hd6) HKb.out (HO2.out _ _ _ (hL5.drawn hd6)) (fun z hz => hz)
              clear hSL hdupE hmem hSM
              go_wp2_with (first | (go_at_call 20; refine HSL.out.mono ?_; rintro e w6 ⟨rfl, hd6⟩) | (go_at_call 21; refine (HMS.out _ hd6).mono ?_; intro e w' h; obtain ⟨rfl, h⟩ := h; rw [h]; clear h w'))
              go_ret
              exact ⟨rfl, hb5.trans (hd6.below _)⟩
          · -- the key is new
            have hdupE : (K.drop f).contains Z = false := by rw [List.contains_eq_mem, decide_eq_false_iff_not]; exact hmem
            rw [hdupE]
            clear hdupE
            have hdn : nDiff (K.drop f ++ [Z]) = d + 1 := by
              rw [nDiff_snoc, Hd.out, if_neg (by rw [List.contains_iff_mem]; exact hmem)]
            have Hdn := hidIt hdn
            clear hdn
            obtain ⟨aO, cO, rfl, hcO, hLO⟩ := hOw.form
            have hKl1 : (K ++ [Z]).length = n + 1 := by rw [List.length_append, hKn]; rfl
            rw [hKl1] at hcO hLO ⊢
            have hkeep : Keeps wr w5 (fun k => some k = sm2) := hfull aN n rfl (by omega)
            have hsmS : sm2 = none ∨ ∃ M S, sm2 = some M ∧ SetIs wr M S := by
              rcases Hsd.out with h | ⟨M, h, _, hS⟩
              · exact .inl h
              · exact .inr ⟨M, _, h, hS⟩
            have hL5 : ListIn w5 w5.heap.size aN n K := by
              obtain ⟨aF, cF, eF, _, h⟩ := (HOd.out.keepsMap hkeep hsmS).form
              rw [hKn] at eF h
              cases eF
              exact h
            have HL5 := hidIt hL5
            have HZ5 := hidIt (HZd.out.keepsMap hkeep hsmS)
            have hb5 : Below w.heap.size w w5 := hbd.trans (hkeep.below _ hbd.size (fun k hk h => by
              rcases Hsd.out with e | ⟨M, e, hM, hS⟩
              · rw [e] at h; cases h
              · rw [e] at h
                cases h
                omega))
            obtain ⟨b, off, rfl, _, hclO⟩ := hLO.2 (by omega)
            obtain ⟨a2, n2, c2, g2, m2, t2⟩ := hclO n (by omega)
            rw [List.getElem?_append_right (by omega), hKn, Nat.sub_self] at t2
            have hslO := fun wx => slice_upto b off (n + 1) n cO (by omega) wx
            have hS20 := sameList_any w5.heap.size (some ⟨b, off, none⟩) n cO aN n n ((K ++ [Z]).take n) K w5 (by unfold maxLen; omega) (by unfold maxLen; omega) (hLO.upto (by omega)) hL5
            rw [decide_eq_true (show (K ++ [Z]).take n = K by rw [List.take_append_of_le_length (by omega), List.take_of_length_le (by omega)])] at hS20
            have HS20 := hidIt hS20
            have HG2 := hidIt (fun w6 (hd6 : Drawn w5 w6) => (hd6.cell ⟨b, off + n, none⟩).trans g2)
            have HE18 : Hid (∀ w6, Drawn w5 w6 → Calls Try.prog 18 #[.slice a2 n2 c2, .slice aZ mk cZ] w6 fun e w' => e = .returned (.bool true) ∧ Drawn w6 w') := by
              intro w6 hd6
              have := equal_any w5.heap.size a2 n2 c2 aZ mk cZ Z Z w6 m2 (by unfold maxLen; omega) (t2.drawn hd6) (HZ5.out.1.drawn hd6)
              rwa [decide_eq_true rfl] at this
            have HCv : Hid (∀ w6, Drawn w5 w6 → (convert 22 9 (.slice aZ mk cZ)).run Try.prog w6 = .ok (.string (strOfNums Z)) w6) := fun w6 hd6 => conv_any (HZ5.out.1.drawn hd6)
            clear hS20 hclO t2 hL5 hLO hOw hfull hmem hkeep hsmS HOd HZd hKl1
            unfold maxLen at m2
            have bq : (((n + 1 : Nat) : Int) != (n : Int) + 1) = false := by simp
            have hin : (n : Int) < ((n + 1 : Nat) : Int) := by omega
            rcases hcase with ⟨rfl, h16, rfl, _⟩ | ⟨rfl, h16, ⟨M, rfl, hSM⟩, _⟩ | ⟨M, rfl, rfl, hSM, _⟩
            · -- fewer than sixteen
              have b16 : decide (((n - f : Nat) : Int) < 16) = true := decide_eq_true (by omega)
              go_wp2_with fail
              refine HS20.out.mono ?_
              rintro e w6 ⟨rfl, hd6⟩
              have g6 := HG2.out w6 hd6
              go_wp2_with fail
              refine (HE18.out _ hd6).mono ?_
              rintro e w7 ⟨rfl, hd7⟩
              go_wp2
              go_ret
              exact ⟨rfl, hb5.trans ((hd6.trans hd7).below _)⟩
            · -- sixteen or more: the map is made
              have b16 : decide (((n - f : Nat) : Int) < 16) = false := decide_eq_false (by omega)
              have hSb : ∀ z ∈ K.drop f ++ [Z], Bytes z := by
                intro z hz
                rw [List.mem_append, List.mem_singleton] at hz
                rcases hz with hz | rfl
                · exact HKb.out z hz
                · exact HZ5.out.1.2.1
              have HMS : Hid (∀ w6, Drawn w5 w6 → Calls Try.prog 21 #[.map (some M), .slice ao2 (n - f) (n - f), .int .i64 ((d : Int) + 1)] w6 fun e w' => e = .returned (.bool true) ∧ w' = w6) := by
                intro w6 hd6
                have := mapIsSet_any w5.heap.size M (K.drop f ++ [Z]) ao2 (n - f) (n - f) (K.drop f) w6 (by unfold maxLen; omega) (hSM.drawn hd6) hSb (HO2.out _ _ _ (HL5.out.drawn hd6)) (fun z hz => List.mem_append_left _ hz)
                rw [Hdn.out] at this
                exact this
              have HLK : Hid (∀ w6, Drawn w5 w6 → (Instr.lookup 24 (.map (some M)) (.string (strOfNums Z)) false).run Try.prog w6 = .ok (.bool true) w6) := by
                intro w6 hd6
                have := (hSM.drawn hd6).look hSb Z HZ5.out.1.2.1 (by rw [HZ5.out.1.1]; unfold maxLen; omega)
                rwa [show (K.drop f ++ [Z]).contains Z = true from List.contains_iff_mem.2 (List.mem_append_right _ (List.mem_singleton.2 rfl))] at this
              clear hSM hSb
              go_wp2_with fail
              refine HS20.out.mono ?_
              rintro e w6 ⟨rfl, hd6⟩
              have g6 := HG2.out w6 hd6
              go_wp2_with fail
              refine (HE18.out _ hd6).mono ?_
              rintro e w7 ⟨rfl, hd7⟩
              have hconv7 := HCv.out w7 (hd6.trans hd7)
              have hlook7 := HLK.out w7 (hd6.trans hd7)
              generalize strOfNums Z = sz at *
              go_wp2_with (go_at_call 21; refine (HMS.out _ (hd6.trans hd7)).mono ?_; intro e w' h; obtain ⟨rfl, h⟩ := h; rw [h]; clear h w')
              go_ret
              exact ⟨rfl, hb5.trans ((hd6.trans hd7).below _)⟩
            · -- the map is there
              have hSb : ∀ z ∈ K.drop f ++ [Z], Bytes z := by
                intro z hz
                rw [List.mem_append, List.mem_singleton] at hz
                rcases hz with hz | rfl
                · exact HKb.out z hz
                · exact HZ5.out.1.2.1
              have HMS : Hid (∀ w6, Drawn w5 w6 → Calls Try.prog 21 #[.map (some M), .slice ao2 (n - f) (n - f), .int .i64 ((d : Int) + 1)] w6 fun e w' => e = .returned (.bool true) ∧ w' = w6) := by
                intro w6 hd6
                have := mapIsSet_any w5.heap.size M (K.drop f ++ [Z]) ao2 (n - f) (n - f) (K.drop f) w6 (by unfold maxLen; omega) (hSM.drawn hd6) hSb (HO2.out _ _ _ (HL5.out.drawn hd6)) (fun z hz => List.mem_append_left _ hz)
                rw [Hdn.out] at this
                exact this
              have HLK : Hid (∀ w6, Drawn w5 w6 → (Instr.lookup 24 (.map (some M)) (.string (strOfNums Z)) false).run Try.prog w6 = .ok (.bool true) w6) := by
                intro w6 hd6
                have := (hSM.drawn hd6).look hSb Z HZ5.out.1.2.1 (by rw [HZ5.out.1.1]; unfold maxLen; omega)
                rwa [show (K.drop f ++ [Z]).contains Z = true from List.contains_iff_mem.2 (List.mem_append_right _ (List.mem_singleton.2 rfl))] at this
              clear hSM hSb
              go_wp2_with fail
              refine HS20.out.mono ?_
              rintro e w6 ⟨rfl, hd6⟩
              have g6 := HG2.out w6 hd6
              go_wp2_with fail
              refine (HE18.out _ hd6).mono ?_
              rintro e w7 ⟨rfl, hd7⟩
              have hconv7 := HCv.out w7 (hd6.trans hd7)
              have hlook7 := HLK.out w7 (hd6.trans hd7)
              generalize strOfNums Z = sz at *
              go_wp2_with (go_at_call 21; refine (HMS.out _ (hd6.trans hd7)).mono ?_; intro e w' h; obtain ⟨rfl, h⟩ := h; rw [h]; clear h w')
              go_ret
              exact ⟨rfl, hb5.trans ((hd6.trans hd7).below _)⟩


set_option maxRecDepth 100000 in
theorem fn5_short (obj : Bool) (first items : Int) (sm : Option Nat) (aK : Option Addr) (n cK : Nat) (ak : Option Addr) (mk ck : Nat) (w : World) (L : Nat) (hn : n ≤ maxLen) (hmk : mk ≤ maxLen) (hL : L ≤ maxLen)
    (hlen : ∀ ty, (Builtin.len_ #[24] ty #[.map sm]).run Try.prog w = .ok (.int .i64 (L : Int)) w) (h : ¬ (n ≤ 65536 ∧ mk ≤ 1048576 ∧ L ≤ 65536)) :
    Calls Try.prog 5 #[.bool obj, .int .i64 first, .int .i64 items, .map sm, .slice aK n cK, .slice ak mk ck] w fun e w' => e = .returned (.bool true) ∧ w' = w := by
  unfold maxLen at hn hmk hL
  by_cases h1 : n ≤ 65536
  · by_cases h2 : mk ≤ 1048576
    · have h3 : ¬ L ≤ 65536 := fun h3 => h ⟨h1, h2, h3⟩
      clear h
      go_enter Try.func5, Try.ntmps5
      go_wp2
      go_ret
      exact ⟨rfl, rfl⟩
    · clear h
      go_enter Try.func5, Try.ntmps5
      go_wp2
      go_ret
      exact ⟨rfl, rfl⟩
  · clear h
    go_enter Try.func5, Try.ntmps5
    go_wp2
    go_ret
    exact ⟨rfl, rfl⟩
end Go.Proofs.Qxb6603095a.Wl
