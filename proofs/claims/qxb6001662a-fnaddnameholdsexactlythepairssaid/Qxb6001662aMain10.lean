import Derived.Test.Qxb6001662aCount
import Derived.Deep.RegionWith
namespace Go.Proofs.Qxb6001662a.Wl
open Go.RowKit Go.Maps Go.WideMaps
open Go.Proofs.Qxb6001662a.Bs
set_option linter.unusedVariables false

theorem slice_head32 (a : Option Addr) (n m c : Nat) (hm : m ≤ n) (hc : n ≤ c) :
    ∃ ao : Option Addr, (∀ wx, (Instr.slice 32 (.slice a n c) none (some (.int .i64 (m : Int))) none).run Try.prog wx = .ok (.slice ao m c) wx) ∧ ∀ w B K, WordsIn w B a n K → WordsIn w B ao m (K.take m) := by
  refine ⟨a, fun wx => ?_, fun w B K h => h.upto hm⟩
  have hs : (sizeOf (Try.prog.elem 32)).run Try.prog wx = .ok 1 wx := by kernel_rfl
  rw [run_slice_h (P := Try.prog) (w := wx) 32 a n c (by kernel_rfl) .i64 (m : Int) (by omega) (by omega), hs]
  cases a <;> simp [Result.andThen, sliced, Addr.add]

theorem NamesM.drawn {w w' : World} {p M N : Nat} {β : ByteArray → Option Nat} {dl : Nat} {f : ByteArray → ByteArray → Bool} {cn : ByteArray → Nat} (h : NamesM w p M N β dl f cn) (hd : Drawn w w') : NamesM w' p M N β dl f cn := by
  obtain ⟨m, rfl⟩ := hd
  have e : (w.drewN m).heap = w.heap := by simp
  have hc : ∀ a, (w.drewN m).cell? a = w.cell? a := fun a => by unfold World.cell?; rw [e]
  have hf : ∀ a, (w.drewN m).frozen? a = w.frozen? a := fun a => by unfold World.frozen?; rw [e]
  obtain ⟨h1, h2, h3, h4, h5, h6⟩ := h
  exact ⟨(hc _).trans h1, (hf _).trans h2, h3, h4.of_block (by rw [e]), fun o b hb => ⟨(h5 o b hb).1, (h5 o b hb).2.1, (h5 o b hb).2.2.of_block (by rw [e])⟩, h6⟩

theorem nil_look (x : ByteArray) (w : World) (hx : x.size ≤ maxLen) : (Instr.lookup 61 (.map none) (.string x) false).run Try.prog w = .ok (.bool false) w := by
  kernel_rfl

theorem held_new (w : World) (A C : List ByteArray) : Held (w.alloc (.cells #[.map none] 58)) w.heap.size A C 0 := by
  have h := Go.Deep.blk_alloc_new w (.cells #[.map none] 58)
  generalize w.alloc (.cells #[.map none] 58) = w0 at *
  exact held_zero _ _ A C (by simp [World.cell?, h]) (by simp [World.frozen?, h])

set_option maxRecDepth 100000 in
set_option maxHeartbeats 4000000 in
theorem fn10_main (aO : Option Addr) (n cO : Nat) (O : List ByteArray) (aI : Option Addr) (m cI : Nat) (I : List ByteArray) (q1 q2 : ByteArray) (w : World)
    (hn : n ≤ maxLen) (hm : m ≤ maxLen) (hq1 : q1.size ≤ maxLen) (hq2 : q2.size ≤ maxLen) (hO : WordsIn w w.heap.size aO n O) (hI : WordsIn w w.heap.size aI m I) :
    Calls Try.prog 10 #[.slice aO n cO, .slice aI m cI, .string q1, .string q2] w fun e w' => e = .returned (.bool true) ∧ Below w.heap.size w w' := by
  have e58 := eqlNil58
  have HZ := hidIt (zzBytes47_any w.heap.size aO n cO O aI m cI I q1 q2 w hn hm hq1 hq2 hO hI)
  have HO := hidIt hO
  have HI := hidIt hI
  clear hO hI
  unfold maxLen at hn hm hq1 hq2
  go_enter Try.func10, Try.ntmps10
  go_wp2_with fail
  refine HZ.out.mono ?_
  intro e w' h; obtain ⟨⟨b0, rfl⟩, h⟩ := h; rw [h]; clear h w' HZ
  cases b0 with
  | false =>
    go_wp2
    go_ret
    exact ⟨rfl, Below.refl _ _⟩
  | true =>
  by_cases hn1 : n ≤ 256
  case neg =>
    go_wp2
    go_ret
    exact ⟨rfl, Below.refl _ _⟩
  by_cases hm1 : m ≤ 256
  case neg =>
    go_wp2
    go_ret
    exact ⟨rfl, Below.refl _ _⟩
  by_cases hq3 : q1.size ≤ 65536
  case neg =>
    go_wp2
    go_ret
    exact ⟨rfl, Below.refl _ _⟩
  by_cases hq4 : q2.size ≤ 65536
  case neg =>
    go_wp2
    go_ret
    exact ⟨rfl, Below.refl _ _⟩
  have HT := hidIt (zzAddWords_any w.heap.size 0 aO n cO O w (by omega) (by omega) (by unfold maxLen; omega) HO.out)
  go_wp2_with fail
  refine HT.out.mono ?_
  intro e w' h; obtain ⟨⟨r, rfl, hr0, hr1⟩, h⟩ := h; rw [h]; clear h w' HT
  by_cases hr : r ≤ 1048576
  case neg =>
    go_wp2
    go_ret
    exact ⟨rfl, Below.refl _ _⟩
  have HT := hidIt (zzAddWords_any w.heap.size r aI m cI I w (by omega) (by omega) (by unfold maxLen; omega) HI.out)
  go_wp2_with fail
  refine HT.out.mono ?_
  intro e w' h; obtain ⟨⟨s, rfl, hs0, hs1⟩, h⟩ := h; rw [h]; clear h w' HT
  by_cases hs : s ≤ 1048576
  case neg =>
    go_wp2
    go_ret
    exact ⟨rfl, Below.refl _ _⟩
  have HT := hidIt (zzAddString_any s q1 w (by omega) (by omega) (by unfold maxLen; omega))
  go_wp2_with fail
  refine HT.out.mono ?_
  intro e w' h; obtain ⟨⟨t, rfl, ht0, ht1⟩, h⟩ := h; rw [h]; clear h w' HT
  by_cases ht : t ≤ 1048576
  case neg =>
    go_wp2
    go_ret
    exact ⟨rfl, Below.refl _ _⟩
  have HT := hidIt (zzAddString_any t q2 w (by omega) (by omega) (by unfold maxLen; omega))
  go_wp2_with fail
  refine HT.out.mono ?_
  intro e w' h; obtain ⟨⟨u, rfl, hu0, hu1⟩, h⟩ := h; rw [h]; clear h w' HT
  by_cases hu : u ≤ 1048576
  case neg =>
    go_wp2
    go_ret
    exact ⟨rfl, Below.refl _ _⟩
  have HC1 := hidIt (cloneStrings_any w.heap.size aO n cO O w (by omega) (Nat.le_refl _) HO.out)
  go_wp2_with fail
  refine HC1.out.mono ?_
  rintro e w1 ⟨aO1, cO1, rfl, hc1, hO1, hb1⟩
  have HO1 := hidIt hO1
  clear HC1 hO1
  have HC2 := hidIt (cloneStrings_any w.heap.size aI m cI I w1 (by omega) hb1.size (HI.out.below hb1))
  go_wp2_with fail
  refine HC2.out.mono ?_
  rintro e w2 ⟨aI1, cI1, rfl, hc2, hI2, hb2⟩
  have HI2 := hidIt hI2
  have HO2 : Hid (WordsIn w2 w2.heap.size aO1 n O) := (HO1.out.below hb2).mono hb2.size
  have hbw : Below w.heap.size w w2 := hb1.trans (hb2.mono hb1.size)
  clear HC2 hI2 HO1 HO HI hb1 hb2 hr hs ht hu hr0 hr1 hs0 hs1 ht0 ht1 hu0 hu1
  go_upto_if 71 with fail
  obtain ⟨k, hk⟩ : ∃ k, k = min n m := ⟨_, rfl⟩
  go_cut [10] (fun v wx => v = .int .i64 (k : Int) ∧ w2 = wx)
  case first =>
    by_cases hlt : m < n
    · go_wp2
      go_meet
      case rel => exact ⟨by rw [show k = m by omega], rfl⟩
    · go_wp2
      go_meet
      case rel => exact ⟨by rw [show k = n by omega], rfl⟩
  case rest =>
    obtain ⟨rfl, hcut⟩ := hcut
    subst hcut
    have hkn : k ≤ n := by omega
    have hkm : k ≤ m := by omega
    clear hk
    obtain ⟨aA, hslA, hA0⟩ := slice_head32 aO1 n k cO1 hkn hc1
    obtain ⟨aC, hslC, hC0⟩ := slice_head32 aI1 m k cI1 hkm hc2
    have HA := hidIt (hA0 _ _ _ HO2.out)
    have HC := hidIt (hC0 _ _ _ HI2.out)
    clear hA0 hC0 HO2 HI2
    generalize O.take k = A at *
    generalize I.take k = C at *
    go_wp2
    have hp0 : Hid (w2.heap.size = w2.heap.size) := rfl
    have hb3 : Below w2.heap.size w2 (w2.alloc (.cells #[.map none] 58)) := (Below.refl _ _).alloc (Nat.le_refl _) _
    have HH0 : Hid (Held (w2.alloc (.cells #[.map none] 58)) w2.heap.size A C 0) := held_new w2 A C
    generalize w2.alloc (.cells #[.map none] 58) = w3 at *
    generalize hp : w2.heap.size = p at *
    have Hp := hidIt hp
    clear hp hp0
    go_loopw [12] (fun i wr => ∃ j : Nat, j ≤ k ∧ i = .int .i64 j ∧ Hid (Held wr p A C j) ∧ Hid (Below p w2 wr)) (fun i _ => k - (intOf i).toNat)
    case atStart => exact ⟨0, Nat.zero_le _, rfl, HH0, hb3⟩
    case round =>
      obtain ⟨j, hj, rfl, HH, HB⟩ := hrel
      clear HH0
      by_cases hlt : j < k
      · obtain ⟨b, off, rfl, _, hc⟩ := (HA.out.below HB.out).2.2 (by omega)
        obtain ⟨b', off', rfl, _, hc'⟩ := (HC.out.below HB.out).2.2 (by omega)
        have g1 := hc j hlt
        have g2 := hc' j hlt
        have hjk : (j : Int) < (k : Int) := by omega
        have HCl : Hid (∀ wx, Drawn wr wx → Calls Try.prog 50 #[.pointer (some ⟨p, 0, none⟩), .string (A[j]?.getD ByteArray.empty), .string (C[j]?.getD ByteArray.empty)] wx fun e w' => (∃ v, e = .returned v) ∧ Held w' p A C (j + 1) ∧ Below p wx w') := fun wx hd =>
          zzAddName_held wx p A C k j HA.out.1 HC.out.1 hlt (by omega) (HH.out.drawn hd) (HA.out.2.1 j) (HC.out.2.1 j)
        clear hc hc'
        generalize A[j]?.getD ByteArray.empty = xo at *
        generalize C[j]?.getD ByteArray.empty = xi at *
        go_wp2_with fail
        go_region_with (go_at_call 50; refine (HCl.out _ ⟨_, rfl⟩).mono ?_; rintro e w' ⟨⟨v, rfl⟩, hH, hB⟩)
        all_goals
          have HH' := hidIt hH
          have HB' : Hid (Below p w2 w') := (HB.out.trans (Drawn.below ⟨_, rfl⟩ p)).trans hB
          clear hH hB HH HB HCl
          go_wp2
          go_roundw
          case rel => exact ⟨j + 1, by omega, by go_num, HH', HB'⟩
          case measure => simp [intOf]; omega
      · have hjk : j = k := by omega
        subst hjk
        clear hlt hj
        by_cases hk0 : j = 0
        · subst hk0
          have c0 := HH.out.nil
          have Hbe : Hid (Below w.heap.size w wr) := hbw.trans (HB.out.mono (by rw [← Hp.out]; exact hbw.size))
          clear HH HB
          go_wp2
          go_ret
          exact ⟨rfl, Hbe.out⟩
        · obtain ⟨M, β, hM, hβ, hz⟩ := HH.out.mapped (by omega)
          rw [List.take_of_length_le (by rw [List.length_zip, HA.out.1, HC.out.1]; omega)] at hM hz
          have Hbe : Hid (Below w.heap.size w wr) := hbw.trans (HB.out.mono (by rw [← Hp.out]; exact hbw.size))
          have HM := hidIt hM
          have Hβ := hidIt hβ
          have Hz := hidIt hz
          have HA5 : Hid (WordsIn wr p aA j A) := HA.out.below HB.out
          have HC5 : Hid (WordsIn wr p aC j C) := HC.out.below HB.out
          have c0 := hM.1
          have bk : decide ((j : Int) = 0) = false := decide_eq_false (by omega)
          have bk' : ((j : Int) == 0) = false := by rw [beq_eq_false_iff_ne]; omega
          clear hM hβ hz HH HB HA HC hslA hslC hb3
          go_wp2
          obtain ⟨w5, hw5⟩ : ∃ w5, w5 = wr := ⟨_, rfl⟩
          subst hw5
          have Hfa : Hid (∀ t, t < j → ∃ b, β (A[t]?.getD ByteArray.empty) = some b) := fun t ht =>
            Option.isSome_iff_exists.1 ((Hβ.out (A[t]?.getD ByteArray.empty)).2 ⟨t, ht, rfl⟩)
          have Hha : Hid (∀ t, t < j → hasP (A.zip C) (A[t]?.getD ByteArray.empty) (C[t]?.getD ByteArray.empty) = true) := fun t ht =>
            (hasP_iff _ _ _).2 (List.mem_of_getElem? (zip_get A C j t HA5.out.1 HC5.out.1 ht))
          have HS : Hid (∀ t wx, t < j → Drawn w5 wx → Calls Try.prog 51 #[.slice aA j cO1, .int .i64 (t : Int)] wx fun e w' => e = .returned (.bool (!(firstW A t))) ∧ Drawn wx w') := fun t wx ht hd =>
            seenBefore_any p aA j cO1 A t wx (by omega) ht (HA5.out.drawn hd)
          have HP : Hid (∀ nq wx, Drawn w5 wx → Calls Try.prog 52 #[.slice aA j cO1, .slice aC j cI1, .string q1, .string q2] (wx.drewN nq) fun e w' => e = .returned (.bool (hasP (A.zip C) q1 q2)) ∧ w' = wx.drewN nq) := fun nq wx hd =>
            hasPair_any p aA j cO1 A aC cI1 C q1 q2 (wx.drewN nq) (by omega) (by unfold maxLen; omega) (by unfold maxLen; omega) (HA5.out.drawn (hd.more nq)) (HC5.out.drawn (hd.more nq))
          obtain ⟨bA, oA, rfl, _, hcA⟩ := HA5.out.2.2 (by omega)
          obtain ⟨bC, oC, rfl, _, hcC⟩ := HC5.out.2.2 (by omega)
          have HcA := hidIt hcA
          have HcC := hidIt hcC
          clear hcA hcC
          go_loopw [13, 14, 15, 16, 17, 18] (fun d i s15 s16 s17 s18 wr => ∃ t : Nat, t ≤ j ∧ i = .int .i64 t ∧ d = .int .i64 (dcnt A t : Nat) ∧ Drawn w5 wr) (fun _ i _ _ _ _ _ => j - (intOf i).toNat)
          case atStart => exact ⟨0, Nat.zero_le _, rfl, rfl, Drawn.refl _⟩
          case round =>
            obtain ⟨t, ht, rfl, rfl, hdr⟩ := hrel
            by_cases hlt : t < j
            · have g1 := (hdr.cell _).trans (HcA.out t hlt)
              have g2 := (hdr.cell _).trans (HcC.out t hlt)
              have gp := (hdr.cell _).trans c0
              obtain ⟨b, hb⟩ := Hfa.out t hlt
              have hNM := HM.out.drawn hdr
              have l1 : ∀ nq, (Instr.lookup 58 (.map (some M)) (.string (A[t]?.getD ByteArray.empty)) false).run Try.prog (wr.drewN nq) = .ok (.map (some b)) (wr.drewN nq) := fun nq => by
                have h := (hNM.drawn ⟨nq, rfl⟩).2.2.2.1.look (A[t]?.getD ByteArray.empty) (HA5.out.2.1 t)
                rwa [hb] at h
              have l2 : ∀ nq, (Instr.lookup 61 (.map (some b)) (.string (C[t]?.getD ByteArray.empty)) false).run Try.prog (wr.drewN nq) = .ok (.bool true) (wr.drewN nq) := fun nq => by
                have h := ((hNM.drawn ⟨nq, rfl⟩).2.2.2.2.1 _ b hb).2.2.look (C[t]?.getD ByteArray.empty) (HC5.out.2.1 t)
                rwa [Hha.out t hlt] at h
              have hin : (t : Int) < (j : Int) := by omega
              have HSt : Hid (∀ wx, Drawn w5 wx → Calls Try.prog 51 #[.slice (some ⟨bA, oA, none⟩) j cO1, .int .i64 (t : Int)] wx fun e w' => e = .returned (.bool (!(firstW A t))) ∧ Drawn wx w') := fun wx hd => HS.out t wx hlt hd
              have Hb := hidIt hb
              clear hNM hb
              generalize hxo : A[t]?.getD ByteArray.empty = xo at *
              have Hxo := hidIt hxo
              clear hxo
              generalize C[t]?.getD ByteArray.empty = xi at *
              have hdl := dcnt_le A t
              go_wp2_with fail
              go_quiet (fail)
              go_wp2_with fail
              refine (HSt.out _ (hdr.more _)).mono ?_
              rintro e w' ⟨rfl, hdr'⟩
              have hdr2 : Drawn w5 w' := (hdr.more _).trans hdr'
              clear hdr hdr' l1 l2 g1 g2 gp HSt
              by_cases hf : firstW A t = true
              case neg =>
                have hd1 : dcnt A (t + 1) = dcnt A t := by
                  show dcnt A t + _ = _
                  rw [if_neg hf]; rfl
                have hf' : firstW A t = false := by revert hf; cases firstW A t <;> simp
                rw [hf']
                go_wp2
                go_roundw
                case rel => exact ⟨t + 1, by omega, by go_num, by rw [hd1], hdr2⟩
                case measure => simp [intOf]; omega
              have hd1 : dcnt A (t + 1) = dcnt A t + 1 := by
                show dcnt A t + _ = _
                rw [if_pos hf]
              rw [hf]
              clear hf
              go_wp2
              go_loopw [15, 16, 17, 18] (fun z i s17 s18 wr => ∃ u : Nat, u ≤ j ∧ i = .int .i64 u ∧ z = .int .i64 (cnt A C xo u : Nat) ∧ Drawn w5 wr) (fun _ i _ _ _ => j - (intOf i).toNat)
              case atStart => exact ⟨0, Nat.zero_le _, rfl, rfl, hdr2⟩
              case round =>
                clear hdr2
                obtain ⟨u, hu, rfl, rfl, hdr⟩ := hrel
                have hcl := cnt_le A C xo u
                have hin : (t : Int) < (j : Int) := by omega
                by_cases hltu : u < j
                · have g1 := (hdr.cell _).trans (HcA.out t hlt)
                  rw [Hxo.out] at g1
                  have g2 := (hdr.cell _).trans (HcA.out u hltu)
                  have hb1 := str_beq (A[u]?.getD ByteArray.empty) xo
                  have hun : (u : Int) < (j : Int) := by omega
                  by_cases e1 : A[u]?.getD ByteArray.empty = xo
                  case neg =>
                    have hc1' : cnt A C xo (u + 1) = cnt A C xo u := by
                      show cnt A C xo u + _ = _
                      rw [if_neg e1]; rfl
                    rw [decide_eq_false e1] at hb1
                    clear e1
                    generalize A[u]?.getD ByteArray.empty = y at *
                    go_wp2_with fail
                    go_quiet (fail)
                    go_wp2
                    go_roundw
                    case rel => exact ⟨u + 1, by omega, by go_num, by rw [hc1'], hdr.more _⟩
                    case measure => simp [intOf]; omega
                  have Hca : Hid (cnt A C xo (u + 1) = cnt A C xo u + (if hasP ((A.zip C).take u) xo (C[u]?.getD ByteArray.empty) then 0 else 1)) := by
                    show cnt A C xo u + _ = _
                    rw [if_pos e1]
                  rw [decide_eq_true e1] at hb1
                  clear e1
                  generalize A[u]?.getD ByteArray.empty = y at *
                  generalize hxc : C[u]?.getD ByteArray.empty = xc at *
                  have Hxc := hidIt hxc
                  clear hxc
                  go_wp2_with fail
                  go_quiet (fail)
                  go_wp2
                  go_loopw [17, 18] (fun d l wr => ∃ v : Nat, v ≤ u ∧ l = .int .i64 v ∧ d = .bool false ∧ Hid ((xo, xc) ∉ (A.zip C).take v) ∧ Drawn w5 wr) (fun _ l _ => u - (intOf l).toNat)
                  case atStart => exact ⟨0, Nat.zero_le _, rfl, rfl, by show _ ∉ _; simp, hdr.more _⟩
                  case round =>
                    clear hdr g1 g2 hb1
                    obtain ⟨v, hv, rfl, rfl, HI, hdr⟩ := hrel
                    by_cases hltv : v < u
                    · have g1 := (hdr.cell _).trans (HcA.out t hlt)
                      rw [Hxo.out] at g1
                      have g2 := (hdr.cell _).trans (HcA.out v (by omega))
                      have g3 := (hdr.cell _).trans (HcC.out v (by omega))
                      have g4 := (hdr.cell _).trans (HcC.out u hltu)
                      rw [Hxc.out] at g4
                      have hb1 := str_beq (A[v]?.getD ByteArray.empty) xo
                      have hb2 := str_beq (C[v]?.getD ByteArray.empty) xc
                      have hvn : (v : Int) < (j : Int) := by omega
                      have hvu : (v : Int) < (u : Int) := by omega
                      have hz := zip_get A C j v HA5.out.1 HC5.out.1 (by omega)
                      have htk := zip_take A C j v HA5.out.1 HC5.out.1 (by omega)
                      by_cases e1 : A[v]?.getD ByteArray.empty = xo
                      · by_cases e2 : C[v]?.getD ByteArray.empty = xc
                        · have HF : Hid (cnt A C xo (u + 1) = cnt A C xo u) := by
                            show _ = _
                            rw [Hca.out, if_pos]
                            · rfl
                            · rw [hasP_iff]
                              rw [e1, e2] at hz
                              exact List.mem_of_getElem? (i := v) (by rw [List.getElem?_take_of_lt hltv]; exact hz)
                          rw [decide_eq_true e1] at hb1
                          rw [decide_eq_true e2] at hb2
                          clear e1 e2 hz htk HI Hca
                          generalize A[v]?.getD ByteArray.empty = y1 at *
                          generalize C[v]?.getD ByteArray.empty = y2 at *
                          go_wp2_with fail
                          go_quiet (fail)
                          go_wp2
                          go_roundw
                          case rel => exact ⟨u + 1, by omega, by go_num, by rw [HF.out], hdr.more _⟩
                          case measure => simp [intOf]; omega
                        · have HI' : Hid ((xo, xc) ∉ (A.zip C).take (v + 1)) := by
                            show _ ∉ _
                            rw [htk, List.mem_append, List.mem_singleton]
                            rintro (h | h)
                            · exact HI.out h
                            · rw [Prod.mk.injEq] at h; exact e2 h.2.symm
                          rw [decide_eq_true e1] at hb1
                          rw [decide_eq_false e2] at hb2
                          clear e1 e2 hz htk HI
                          generalize A[v]?.getD ByteArray.empty = y1 at *
                          generalize C[v]?.getD ByteArray.empty = y2 at *
                          go_wp2_with fail
                          go_quiet (fail)
                          go_wp2
                          go_roundw
                          case rel => exact ⟨v + 1, by omega, by go_num, rfl, HI', hdr.more _⟩
                          case measure => simp [intOf]; omega
                      · have HI' : Hid ((xo, xc) ∉ (A.zip C).take (v + 1)) := by
                          show _ ∉ _
                          rw [htk, List.mem_append, List.mem_singleton]
                          rintro (h | h)
                          · exact HI.out h
                          · rw [Prod.mk.injEq] at h; exact e1 h.1.symm
                        rw [decide_eq_false e1] at hb1
                        clear e1 hb2 hz htk HI
                        generalize A[v]?.getD ByteArray.empty = y1 at *
                        generalize C[v]?.getD ByteArray.empty = y2 at *
                        go_wp2_with fail
                        go_quiet (fail)
                        go_wp2
                        go_roundw
                        case rel => exact ⟨v + 1, by omega, by go_num, rfl, HI', hdr.more _⟩
                        case measure => simp [intOf]; omega
                    · have hvu : v = u := by omega
                      subst hvu
                      have HF : Hid (cnt A C xo (v + 1) = cnt A C xo v + 1) := by
                        show _ = _
                        rw [Hca.out, if_neg]
                        rw [hasP_iff]
                        exact HI.out
                      clear HI Hca
                      go_wp2
                      go_roundw
                      case rel => exact ⟨v + 1, by omega, by go_num, by rw [HF.out]; go_num, hdr⟩
                      case measure => simp [intOf]; omega
                · have hu' : u = j := by omega
                  subst hu'
                  have g1 := (hdr.cell _).trans (HcA.out t hlt)
                  rw [Hxo.out] at g1
                  have gp := (hdr.cell _).trans c0
                  have hNM := HM.out.drawn hdr
                  have hxs : xo.size ≤ maxLen := by rw [← Hxo.out]; exact HA5.out.2.1 t
                  have l1 : ∀ nq, (Instr.lookup 58 (.map (some M)) (.string xo) false).run Try.prog (wr.drewN nq) = .ok (.map (some b)) (wr.drewN nq) := fun nq => by
                    have h := (hNM.drawn ⟨nq, rfl⟩).2.2.2.1.look xo hxs
                    rwa [Hb.out] at h
                  have l2 : ∀ nq ty, (Builtin.len_ #[61] ty #[.map (some b)]).run Try.prog (wr.drewN nq) = .ok (.int .i64 (cnt A C xo u : Nat)) (wr.drewN nq) := fun nq ty =>
                    ((hNM.drawn ⟨nq, rfl⟩).2.2.2.2.1 _ b Hb.out).2.2.len ty
                  have l3 : ((cnt A C xo u : Int) != (cnt A C xo u : Int)) = false := by simp
                  clear hNM
                  generalize cnt A C xo u = cc at *
                  go_wp2_with fail
                  go_quiet (fail)
                  go_wp2
                  go_roundw
                  case rel => exact ⟨t + 1, by omega, by go_num, by rw [hd1]; go_num, hdr.more _⟩
                  case measure => simp [intOf]; omega
            · have ht' : t = j := by omega
              subst ht'
              have gp := (hdr.cell _).trans c0
              have hNM := HM.out.drawn hdr
              have ll := fun ty => hNM.2.2.2.1.len ty
              have HPt : Hid (∀ nq, Calls Try.prog 52 #[.slice (some ⟨bA, oA, none⟩) t cO1, .slice (some ⟨bC, oC, none⟩) t cI1, .string q1, .string q2] (wr.drewN nq) fun e w' => e = .returned (.bool (hasP (A.zip C) q1 q2)) ∧ w' = wr.drewN nq) := fun nq => HP.out nq wr hdr
              have l3 : ((dcnt A t : Int) != (dcnt A t : Int)) = false := by simp
              have hl1 := fun nq => (hNM.drawn ⟨nq, rfl⟩).2.2.2.1.look q1 (by unfold maxLen; omega)
              generalize dcnt A t = dd at *
              cases hq : β q1 with
              | none =>
                rw [Hz.out q1 hq q2] at HPt
                rw [hq] at hl1
                have hl2 : ∀ nq, (Instr.lookup 61 (.map none) (.string q2) false).run Try.prog (wr.drewN nq) = .ok (.bool false) (wr.drewN nq) := fun nq => nil_look q2 _ (by unfold maxLen; omega)
                clear hNM
                go_wp2_with fail
                go_quiet ((go_at_call 52; exact Calls.quiet_of_same (HPt.out _)))
                go_wp2
                go_ret
                exact ⟨rfl, Hbe.out.trans ((hdr.more _).below _)⟩
              | some b =>
                rw [hq] at hl1
                have hl2 := fun nq => ((hNM.drawn ⟨nq, rfl⟩).2.2.2.2.1 _ b hq).2.2.look q2 (by unfold maxLen; omega)
                clear hNM
                generalize hasP (A.zip C) q1 q2 = rr at *
                have hrr : (rr == rr) = true := by simp
                go_wp2_with fail
                go_quiet ((go_at_call 52; exact Calls.quiet_of_same (HPt.out _)))
                go_wp2
                go_ret
                exact ⟨rfl, Hbe.out.trans ((hdr.more _).below _)⟩
end Go.Proofs.Qxb6001662a.Wl
