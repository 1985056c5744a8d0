import Derived.Test.Qxb6001662aSplit
import Derived.Deep.CutRange
import Derived.Deep.CutBlock
namespace Go.Proofs.Qxb6001662a.Wl
open Go.RowKit Go.Maps Go.WideMaps
open Go.Proofs.Qxb6001662a.Bs
set_option linter.unusedVariables false

theorem two_of_rows {R S : List (List ByteArray)} (h2 : Two R) (h : ∀ r, r ∈ S → r ∈ R) : Two S := by
  intro i hi
  have hm : S[i]?.getD [] ∈ S := by rw [List.getElem?_eq_getElem hi]; exact List.getElem_mem _
  obtain ⟨j, hj, e⟩ := List.getElem_of_mem (h _ hm)
  have := h2 j hj
  rw [List.getElem?_eq_getElem hj] at this
  rw [← e]
  exact this
theorem MatIn.nm_size {w : World} {B n : Nat} {a : Option Addr} {R : List (List ByteArray)} (h : MatIn w B a n R) (i : Nat) (hi : i < n) : (nm (R[i]?.getD [])).size ≤ maxLen := by
  obtain ⟨b, off, _, _, hc⟩ := h.2 (by omega)
  obtain ⟨ai, ni, ci, _, _, t⟩ := hc i hi
  exact t.2.1 1
theorem cells51 (w : World) (v : Value) : (w.alloc (.cells #[v] 51)).cell? ⟨w.heap.size, 0, none⟩ = some v := by
  have h := Go.Deep.blk_alloc_new w (.cells #[v] 51)
  generalize w.alloc (.cells #[v] 51) = w0 at *
  simp [World.cell?, h]

/-! ### what the law's own loops reckon -/
def LeastOf (P : Nat → List (List ByteArray)) (p : Nat) (lv : Int) : Prop := (p = 0 ∧ lv = -1) ∨ ∃ a, a < p ∧ lv = ((P a).length : Int)
def MostOf (P : Nat → List (List ByteArray)) (p : Nat) (mv : Int) : Prop := mv = 0 ∨ ∃ a, a < p ∧ mv = ((P a).length : Int)
theorem LeastOf.take (P : Nat → List (List ByteArray)) (p : Nat) : LeastOf P (p + 1) ((P p).length : Int) := .inr ⟨p, by omega, rfl⟩
theorem MostOf.take (P : Nat → List (List ByteArray)) (p : Nat) : MostOf P (p + 1) ((P p).length : Int) := .inr ⟨p, by omega, rfl⟩
theorem LeastOf.keep {P : Nat → List (List ByteArray)} {p : Nat} {lv : Int} (h : LeastOf P p lv) (hn : ¬ lv < 0) : LeastOf P (p + 1) lv := by
  rcases h with ⟨_, h⟩ | ⟨a, ha, h⟩
  · omega
  · exact .inr ⟨a, by omega, h⟩
theorem MostOf.keep {P : Nat → List (List ByteArray)} {p : Nat} {mv : Int} (h : MostOf P p mv) : MostOf P (p + 1) mv := by
  rcases h with h | ⟨a, ha, h⟩
  · exact .inl h
  · exact .inr ⟨a, by omega, h⟩
theorem gap_le {R : List (List ByteArray)} {q kn : Nat} {kf : Nat → ByteArray} {P : Nat → List (List ByteArray)} {lv mv : Int} {bg : Nat} (h : Pd R q kn kn kf P) (hK : Ks R R.length kn kf) (hq : 0 < q) (hl : LeastOf P q lv) (hm : MostOf P q mv)
    (hb : ∀ j, j < R.length → (ofSet R (nm (R[j]?.getD []))).length ≤ bg) : mv - lv ≤ (bg : Int) := by
  have hbb : ∀ j, j < kn → (ofSet R (kf j)).length ≤ bg := by
    intro j hj
    obtain ⟨i, hi, e⟩ := hK.src j hj
    rw [← e]
    exact hb i hi
  rcases hl with ⟨h0, _⟩ | ⟨a, ha, rfl⟩
  · omega
  · rcases hm with rfl | ⟨b, hb', rfl⟩
    · omega
    · have := h.gap bg hbb b a hb' ha
      omega

set_option maxRecDepth 100000 in
set_option maxHeartbeats 8000000 in
theorem fn8_main (a : Option Addr) (n c : Nat) (R : List (List ByteArray)) (nn : Int) (w : World) (hn : n ≤ maxLen) (hR : MatIn w w.heap.size a n R) :
    Calls Try.prog 8 #[.slice a n c, .int .i64 nn] w fun e w' => e = .returned (.bool true) ∧ Below w.heap.size w w' := by
  have HZ := hidIt (zzBytes34_any w.heap.size a n c R nn w hn hR)
  have HR := hidIt hR
  clear hR
  unfold maxLen at hn
  go_enter Try.func8, Try.ntmps8
  go_wp2_with fail
  refine HZ.out.mono ?_
  intro e w' h; obtain ⟨⟨b0, rfl⟩, h⟩ := h; rw [h]; clear h w' HZ
  cases b0 with
  | false =>
    go_wp2
    go_ret
    exact ⟨rfl, Below.refl _ _⟩
  | true =>
  by_cases hn1 : n ≤ 512
  case neg =>
    go_wp2
    go_ret
    exact ⟨rfl, Below.refl _ _⟩
  go_wp2
  go_loop [5, 6] (fun z i => ∃ (s : Int) (k : Nat), z = .int .i64 s ∧ 0 ≤ s ∧ s ≤ 1048576 ∧ k ≤ n ∧ i = .int .i64 k ∧ Hid (∀ j, j < k → (R[j]?.getD []).length ≤ 4096)) (fun _ i => n - (intOf i).toNat)
  case atStart => exact ⟨24, 0, rfl, by omega, by omega, Nat.zero_le _, rfl, fun j hj => absurd hj (by omega)⟩
  case round =>
    obtain ⟨s, k, rfl, hs0, hs1, hk, rfl, HI⟩ := hrel
    by_cases hlt : k < n
    · obtain ⟨b, off, rfl, _, hcl⟩ := HR.out.2 (by omega)
      obtain ⟨a1, n1, c1, g1, m1, t1⟩ := hcl k hlt
      have hkn : (k : Int) < (n : Int) := by omega
      have HT := hidIt (zzAddWords_any w.heap.size s a1 n1 c1 (R[k]?.getD []) w hs0 hs1 m1 t1)
      have Hl := hidIt t1.1
      clear t1 hcl
      unfold maxLen at m1
      by_cases h1 : n1 ≤ 4096
      case neg =>
        go_wp2
        go_ret
        exact ⟨rfl, Below.refl _ _⟩
      have HI' : Hid (∀ j, j < k + 1 → (R[j]?.getD []).length ≤ 4096) := by
        intro j hj
        by_cases e : j = k
        · rw [e, Hl.out]; exact h1
        · exact HI.out j (by omega)
      clear HI Hl
      go_wp2_with fail
      refine HT.out.mono ?_
      intro e w' h; obtain ⟨⟨r, rfl, hr0, hr1⟩, h⟩ := h; rw [h]; clear h w' HT
      by_cases hr : r ≤ 1048576
      case neg =>
        go_wp2
        go_ret
        exact ⟨rfl, Below.refl _ _⟩
      go_wp2
      go_round
      case rel => exact ⟨r, k + 1, rfl, by omega, by omega, by omega, by go_num, HI'⟩
      case measure => simp [intOf]; omega
    · have HL : Hid (∀ j, j < n → (R[j]?.getD []).length ≤ 4096) := fun j hj => HI.out j (by omega)
      clear HI
      go_wp2
      clear hs0 hs1 hk hlt
      go_loop [7] (fun i => ∃ k : Nat, k ≤ n ∧ i = .int .i64 k ∧ Hid (∀ j, j < k → 2 ≤ (R[j]?.getD []).length)) (fun i => n - (intOf i).toNat)
      case atStart => exact ⟨0, Nat.zero_le _, rfl, fun j hj => absurd hj (by omega)⟩
      case round =>
        obtain ⟨k, hk, rfl, HI⟩ := hrel
        by_cases hlt : k < n
        · obtain ⟨b, off, rfl, _, hcl⟩ := HR.out.2 (by omega)
          obtain ⟨a1, n1, c1, g1, m1, t1⟩ := hcl k hlt
          have hkn : (k : Int) < (n : Int) := by omega
          have Hl := hidIt t1.1
          clear t1 hcl
          unfold maxLen at m1
          by_cases h1 : 2 ≤ n1
          case neg =>
            go_wp2
            go_ret
            exact ⟨rfl, Below.refl _ _⟩
          have HI' : Hid (∀ j, j < k + 1 → 2 ≤ (R[j]?.getD []).length) := by
            intro j hj
            by_cases e : j = k
            · rw [e, Hl.out]; exact h1
            · exact HI.out j (by omega)
          clear HI Hl
          go_wp2
          go_round
          case rel => exact ⟨k + 1, by omega, by go_num, HI'⟩
          case measure => simp [intOf]; omega
        · have H2 : Hid (Two R) := fun j hj => HI.out j (by have := HR.out.1; omega)
          clear HI
          have HC := hidIt (cloneMatrix_any w.heap.size a n c R w (by omega) (Nat.le_refl _) HR.out (fun j hj => Nat.le_trans (HL.out j hj) (by omega)))
          go_wp2_with fail
          refine HC.out.mono ?_
          rintro e w1 ⟨a1, rfl, hR1, hb1⟩
          have HR1 := hidIt hR1
          clear HC
          have HC := hidIt (cloneMatrix_any w1.heap.size a1 n n R w1 (by omega) (Nat.le_refl _) hR1 (fun j hj => Nat.le_trans (HL.out j hj) (by omega)))
          clear hR1
          go_wp2_with fail
          refine HC.out.mono ?_
          rintro e w2 ⟨a2, rfl, hR2, hb2⟩
          clear HC
          have HC := hidIt (setEditOf_any a2 n n w2)
          have hb3 : Below w2.heap.size w2 (w2.alloc (.cells #[.slice a2 n n] 51)) := (Below.refl _ _).alloc (Nat.le_refl _) _
          have hR3 : MatIn (w2.alloc (.cells #[.slice a2 n n] 51)) (w2.alloc (.cells #[.slice a2 n n] 51)).heap.size a2 n R := (hR2.below hb3).mono hb3.size
          have hp3 := cells51 w2 (.slice a2 n n)
          have HS := hidIt (split_any w2.heap.size a2 n n R nn (w2.alloc (.cells #[.slice a2 n n] 51)) hn1 hp3 hR3 H2.out)
          have hbw : Below w.heap.size w (w2.alloc (.cells #[.slice a2 n n] 51)) := (hb1.trans (hb2.mono hb1.size)).trans (hb3.mono (Nat.le_trans hb1.size hb2.size))
          have hb13 : Below w1.heap.size w1 (w2.alloc (.cells #[.slice a2 n n] 51)) := hb2.trans (hb3.mono hb2.size)
          clear hR2 hb3 hR3 hp3 hb1 hb2
          go_wp2_with fail
          refine HC.out.mono ?_
          rintro e w3 ⟨rfl, rfl⟩
          clear HC
          generalize w2.alloc (.cells #[.slice a2 n n] 51) = w3 at *
          go_wp2_with fail
          refine HS.out.mono ?_
          rintro e w4 ⟨bP, q, kn, kf, P, rfl, hK, hP, hQ, hbP, hb4, hPt⟩
          clear HS
          have HM : Hid (MatIn w4 w4.heap.size a1 n R) := (HR1.out.below (hb13.trans (hb4.mono hb13.size))).mono (Nat.le_trans hb13.size hb4.size)
          have HB4 : Hid (Below w.heap.size w w4) := hbw.trans (hb4.mono hbw.size)
          have HK := hidIt hK
          have HP := hidIt hP
          have HQ := hidIt hQ
          have HPt := hidIt hPt
          have hRl : R.length = n := HR.out.1
          have hkn : kn ≤ n := by rw [hK.cnt]; have := kc_le R R.length; omega
          have hqk : q ≤ kn := by unfold Want at hQ; omega
          clear hK hP hQ hPt hb4 hb13 hbw HR1 HR HL
          go_wp2
          go_loopw [10, 11, 12, 13] (fun z bg i g wr => ∃ (i0 b0 : Nat), i0 ≤ n ∧ b0 ≤ n ∧ i = .int .i64 i0 ∧ z = .int .i64 (kc R i0 : Nat) ∧ bg = .int .i64 b0 ∧ Hid (∀ j, j < i0 → (ofSet R (nm (R[j]?.getD []))).length ≤ b0) ∧ Drawn w4 wr) (fun _ _ i _ _ => n - (intOf i).toNat)
          case atStart => exact ⟨0, 0, Nat.zero_le _, Nat.zero_le _, rfl, rfl, rfl, fun j hj => absurd hj (by omega), Drawn.refl _⟩
          case round =>
            obtain ⟨i, bg, hi, hbg, rfl, rfl, rfl, HI, hdr⟩ := hrel
            have hkcl := kc_le R i
            by_cases hlti : i < n
            · have HF := hidIt (firstOfSet_any w4.heap.size a1 n n R i wr (by omega) hlti (HM.out.drawn hdr) H2.out)
              have hin : (i : Int) < (n : Int) := by omega
              go_wp2_with fail
              refine HF.out.mono ?_
              rintro e w' ⟨rfl, hdr'⟩
              have hdr2 : Drawn w4 w' := hdr.trans hdr'
              clear hdr hdr' HF
              by_cases hf : firstW (R.map nm) i = true
              case neg =>
                have hf' : firstW (R.map nm) i = false := by revert hf; cases firstW (R.map nm) i <;> simp
                have hk1 : kc R (i + 1) = kc R i := by
                  show kc R i + _ = _
                  rw [if_neg hf]; rfl
                have HI' : Hid (∀ j, j < i + 1 → (ofSet R (nm (R[j]?.getD []))).length ≤ bg) := by
                  intro j hj
                  by_cases e : j = i
                  · rw [e]
                    rw [first_iff] at hf
                    apply Classical.byContradiction
                    intro hc
                    apply hf
                    intro j' hj' e'
                    apply hc
                    rw [← e']
                    exact HI.out j' hj'
                  · exact HI.out j (by omega)
                rw [hf']
                clear HI hf hf'
                go_wp2
                go_roundw
                case rel => exact ⟨i + 1, bg, by omega, hbg, by go_num, by rw [hk1], rfl, HI', hdr2⟩
                case measure => simp [intOf]; omega
              have hk1 : kc R (i + 1) = kc R i + 1 := by
                show kc R i + _ = _
                rw [if_pos hf]
              rw [hf]
              clear hf
              obtain ⟨b, off, rfl, _, _⟩ := HM.out.2 (by omega)
              obtain ⟨b1, o1, n1, c1, g1, l1, m1, f1⟩ := (HM.out.drawn hdr2).name H2.out i hlti
              have hxs := HM.out.nm_size i hlti
              have HC := hidIt (countSet_any w4.heap.size (some ⟨b, off, none⟩) n n R (nm (R[i]?.getD [])) w' (by omega) hxs (HM.out.drawn hdr2) H2.out)
              have hcl := ofSet_len R (nm (R[i]?.getD []))
              have HI2 : Hid (∀ b0 : Nat, bg ≤ b0 → (ofSet R (nm (R[i]?.getD []))).length ≤ b0 → ∀ j, j < i + 1 → (ofSet R (nm (R[j]?.getD []))).length ≤ b0) := by
                intro b0 h1 h2 j hj
                by_cases e : j = i
                · rw [e]; exact h2
                · have := HI.out j (by omega); omega
              unfold maxLen at m1
              clear HI hxs
              generalize nm (R[i]?.getD []) = x at *
              generalize (ofSet R x).length = cx at *
              go_wp2_with fail
              refine HC.out.mono ?_
              intro e w'' h; obtain ⟨rfl, h⟩ := h; rw [h]; clear h w'' HC
              by_cases hgt : bg < cx
              · have HI' := hidIt (HI2.out cx (by omega) (Nat.le_refl _))
                go_wp2
                go_roundw
                case rel => exact ⟨i + 1, cx, by omega, by omega, by go_num, by rw [hk1]; go_num, rfl, HI', hdr2⟩
                case measure => simp [intOf]; omega
              · have HI' := hidIt (HI2.out bg (Nat.le_refl _) (by omega))
                go_wp2
                go_roundw
                case rel => exact ⟨i + 1, bg, by omega, hbg, by go_num, by rw [hk1]; go_num, rfl, HI', hdr2⟩
                case measure => simp [intOf]; omega
            · have hin : i = n := by omega
              subst hin
              obtain ⟨w5, hw5⟩ : ∃ w5, w5 = wr := ⟨_, rfl⟩
              subst hw5
              have hkk : kc R i = kn := by rw [HK.out.cnt, hRl]
              rw [hkk]
              clear hkcl hkk
              have HBG : Hid (∀ j, j < R.length → (ofSet R (nm (R[j]?.getD []))).length ≤ bg) := fun j hj => HI.out j (by omega)
              clear HI
              have Hb5 : Hid (Below w4.heap.size w4 w5) := hdr.below _
              clear hdr
              go_upto_if 98 with fail
              go_cut [14] from 97 to 98 (fun v wx => v = .int .i64 (max nn 1) ∧ w5 = wx)
              case first =>
                by_cases h1 : nn < 1
                · go_wp2
                  go_meet
                  case rel => exact ⟨by rw [show max nn 1 = 1 by omega], rfl⟩
                · go_wp2
                  go_meet
                  case rel => exact ⟨by rw [show max nn 1 = nn by omega], rfl⟩
              case rest =>
                obtain ⟨rfl, hcut⟩ := hcut
                subst hcut
                have hQ := HQ.out
                unfold Want at hQ
                generalize max nn 1 = m1 at *
                go_upto_if 101 with fail
                go_cut [14] from 99 to 102 (fun v wx => v = .int .i64 (q : Int) ∧ w5 = wx)
                case first =>
                  by_cases h2 : (kn : Int) < m1
                  · have e2 : (q : Int) = kn := by omega
                    clear hQ
                    go_wp2
                    go_meet
                    case rel => exact ⟨by rw [e2], rfl⟩
                  · have e2 : (q : Int) = m1 := by omega
                    clear hQ
                    go_wp2
                    go_meet
                    case rel => exact ⟨by rw [e2], rfl⟩
                case rest =>
                  obtain ⟨rfl, hcut⟩ := hcut
                  subst hcut
                  clear hQ
                  have hqq : ((q : Int) != (q : Int)) = false := by simp
                  go_wp2
                  go_loopw [15, 16, 17, 18, 19, 20] (fun s15 s16 s17 s18 s19 s20 wr => ∃ (p : Nat) (lv mv : Int), p ≤ q ∧ s18 = .int .i64 p ∧ s15 = .int .i64 (sumN (fun p => (P p).length) p : Nat) ∧ s16 = .int .i64 lv ∧ s17 = .int .i64 mv ∧ -1 ≤ lv ∧ lv ≤ 512 ∧ 0 ≤ mv ∧ mv ≤ 512 ∧ Hid (LeastOf P p lv) ∧ Hid (MostOf P p mv) ∧ Hid (Below w4.heap.size w4 wr)) (fun _ _ _ s18 _ _ _ => q - (intOf s18).toNat)
                  case atStart => exact ⟨0, -1, 0, Nat.zero_le _, rfl, rfl, rfl, rfl, by omega, by omega, by omega, by omega, .inl ⟨rfl, rfl⟩, .inl rfl, Hb5⟩
                  case round =>
                    clear Hb5
                    obtain ⟨p, lv, mv, hp, rfl, rfl, rfl, rfl, hl0, hl1, hm0, hm1, HLv, HMv, HB⟩ := hrel
                    have hsl : sumN (fun p => (P p).length) p ≤ i := by
                      have h1 := sumN_mono (f := fun p => (P p).length) hp
                      rw [HP.out.sum, HK.out.total, hRl] at h1
                      exact h1
                    by_cases hltp : p < q
                    · obtain ⟨ap, cp, gc0, hmat⟩ := HPt.out p hltp
                      have gc := (HB.out.cell (by exact hbP)).trans gc0
                      have HC := hidIt (setEditCommands_any ap (P p).length cp wr)
                      have hpos : 0 < (P p).length := List.length_pos_iff.2 ((HP.out.fill p hltp).2 (by omega))
                      have hle : (P p).length ≤ i := by have := HP.out.le HK.out (Nat.le_refl _) p hltp; omega
                      have H2p : Hid (Two (P p)) := two_of_rows H2.out (HP.out.rows p hltp)
                      have Hmat := hidIt hmat
                      have Hsum : Hid (sumN (fun p => (P p).length) (p + 1) = sumN (fun p => (P p).length) p + (P p).length) := rfl
                      have HLt := hidIt (LeastOf.take P p)
                      have HMt := hidIt (MostOf.take P p)
                      have hpq : (p : Int) < (q : Int) := by omega
                      generalize sumN (fun p => (P p).length) p = sm at *
                      clear gc0 hmat
                      generalize hlp : (P p).length = lp at *
                      have Hlp := hidIt hlp
                      clear hlp
                      go_wp2_with fail
                      refine HC.out.mono ?_
                      rintro e w' ⟨rfl, hb'⟩
                      have Hb2 : Hid (Below w4.heap.size w4 w') := HB.out.trans (hb'.mono HB.out.size)
                      have hne0 : ((lp : Int) == 0) = false := by rw [beq_eq_false_iff_ne]; omega
                      have hne1 : decide ((lp : Int) = 0) = false := decide_eq_false (by omega)
                      clear hb' HC HB gc
                      go_wp2
                      go_loop [20] (fun s20 => ∃ u : Nat, u ≤ lp ∧ s20 = .int .i64 u) (fun s20 => lp - (intOf s20).toNat)
                      case atStart => exact ⟨0, Nat.zero_le _, rfl⟩
                      case round =>
                        obtain ⟨u, hu, rfl⟩ := hrel
                        by_cases hltu : u < lp
                        · obtain ⟨b, off, rfl, _, hcl⟩ := (Hmat.out.below Hb2.out).2 (by omega)
                          obtain ⟨ai, ni, ci, g, m, t⟩ := hcl u hltu
                          have hni : 2 ≤ ni := by have := H2p.out u (by rw [Hlp.out]; exact hltu); rw [t.1] at this; exact this
                          have hul : (u : Int) < (lp : Int) := by omega
                          clear hcl t
                          unfold maxLen at m
                          go_wp2
                          go_round
                          case rel => exact ⟨u + 1, by omega, by go_num⟩
                          case measure => simp [intOf]; omega
                        · by_cases hA : lv < 0
                          · by_cases hM : mv < (lp : Int)
                            · go_wp2
                              go_roundw
                              case rel => exact ⟨p + 1, lp, lp, by omega, by go_num, by rw [Hsum.out]; go_num, rfl, rfl, by omega, by omega, by omega, by omega, HLt, HMt, Hb2⟩
                              case measure => simp [intOf]; omega
                            · have HMk := hidIt HMv.out.keep
                              go_wp2
                              go_roundw
                              case rel => exact ⟨p + 1, lp, mv, by omega, by go_num, by rw [Hsum.out]; go_num, rfl, rfl, by omega, by omega, by omega, by omega, HLt, HMk, Hb2⟩
                              case measure => simp [intOf]; omega
                          · by_cases hA2 : (lp : Int) < lv
                            · by_cases hM : mv < (lp : Int)
                              · go_wp2
                                go_roundw
                                case rel => exact ⟨p + 1, lp, lp, by omega, by go_num, by rw [Hsum.out]; go_num, rfl, rfl, by omega, by omega, by omega, by omega, HLt, HMt, Hb2⟩
                                case measure => simp [intOf]; omega
                              · have HMk := hidIt HMv.out.keep
                                go_wp2
                                go_roundw
                                case rel => exact ⟨p + 1, lp, mv, by omega, by go_num, by rw [Hsum.out]; go_num, rfl, rfl, by omega, by omega, by omega, by omega, HLt, HMk, Hb2⟩
                                case measure => simp [intOf]; omega
                            · have HLk := hidIt (HLv.out.keep hA)
                              by_cases hM : mv < (lp : Int)
                              · go_wp2
                                go_roundw
                                case rel => exact ⟨p + 1, lv, lp, by omega, by go_num, by rw [Hsum.out]; go_num, rfl, rfl, by omega, by omega, by omega, by omega, HLk, HMt, Hb2⟩
                                case measure => simp [intOf]; omega
                              · have HMk := hidIt HMv.out.keep
                                go_wp2
                                go_roundw
                                case rel => exact ⟨p + 1, lv, mv, by omega, by go_num, by rw [Hsum.out]; go_num, rfl, rfl, by omega, by omega, by omega, by omega, HLk, HMk, Hb2⟩
                                case measure => simp [intOf]; omega
                    · have hpq : p = q := by omega
                      subst hpq
                      have hst : sumN (fun p => (P p).length) p = i := by rw [HP.out.sum, HK.out.total, hRl]
                      rw [hst]
                      clear hst hsl
                      have hnn : ((i : Int) != (i : Int)) = false := by simp
                      have Hgap : Hid (0 < p → mv - lv ≤ (bg : Int)) := fun h0 => gap_le HP.out HK.out h0 HLv.out HMv.out HBG.out
                      clear HLv HMv HBG
                      go_upto_region 60 with fail
                      go_cut [166] from 157 to 166 (fun v wx => v = .bool false ∧ wr = wx)
                      case first =>
                        by_cases h0 : 0 < p
                        · have hg := Hgap.out h0
                          go_wp2
                          go_meet
                          case rel => exact ⟨congrArg Value.bool (decide_eq_false (by omega)), rfl⟩
                        · go_wp2
                          go_meet
                          case rel => exact ⟨rfl, rfl⟩
                      case rest =>
                        obtain ⟨rfl, hcut⟩ := hcut
                        subst hcut
                        clear Hgap hl0 hl1 hm0 hm1
                        go_wp2
                        go_loopw [21, 22, 23, 24, 25] (fun s21 s22 s23 s24 s25 wr => ∃ j : Nat, j ≤ i ∧ s21 = .int .i64 j ∧ Hid (Below w4.heap.size w4 wr)) (fun s21 _ _ _ _ _ => i - (intOf s21).toNat)
                        case atStart => exact ⟨0, Nat.zero_le _, rfl, HB⟩
                        case round =>
                          clear HB
                          obtain ⟨j, hj, rfl, HB⟩ := hrel
                          by_cases hltj : j < i
                          · have HF := hidIt (firstOfSet_any w4.heap.size a1 i i R j wr (by omega) hltj (HM.out.below HB.out) H2.out)
                            have hjn : (j : Int) < (i : Int) := by omega
                            go_wp2_with fail
                            refine HF.out.mono ?_
                            rintro e w' ⟨rfl, hdr'⟩
                            have HB2 : Hid (Below w4.heap.size w4 w') := HB.out.trans (hdr'.below _)
                            clear HB hdr' HF
                            cases hf : firstW (R.map nm) j with
                            | false =>
                              clear hf
                              go_wp2
                              go_roundw
                              case rel => exact ⟨j + 1, by omega, by go_num, HB2⟩
                              case measure => simp [intOf]; omega
                            | true =>
                              clear hf
                              obtain ⟨b, off, rfl, _, _⟩ := HM.out.2 (by omega)
                              obtain ⟨b1, o1, n1, c1, g1, l1, m1, f1⟩ := (HM.out.below HB2.out).name H2.out j hltj
                              have hxs := HM.out.nm_size j hltj
                              obtain ⟨y, hy, ey⟩ := HK.out.hit j (by omega)
                              obtain ⟨p0, hp0, e1, e2⟩ := HP.out.own y hy
                              have hne : ofSet R (kf y) ≠ [] := HK.out.nonempty hy
                              rw [ey] at e1 e2 hne
                              unfold maxLen at m1
                              clear ey
                              generalize nm (R[j]?.getD []) = x at *
                              have E1 := hidIt e1
                              have E2 := hidIt e2
                              have hnp : 0 < (ofSet R x).length := List.length_pos_iff.2 hne
                              have hnl := ofSet_len R x
                              clear e1 e2 hne
                              go_wp2
                              clear g1 l1 m1 f1
                              go_loopw [23, 24, 25] (fun s23 s24 s25 wr => ∃ (t : Nat) (ov : Int), t ≤ p ∧ s24 = .int .i64 t ∧ s23 = .int .i64 ov ∧ Hid ((t ≤ p0 ∧ ov = -1) ∨ (p0 < t ∧ ov = (p0 : Int))) ∧ Hid (Below w4.heap.size w4 wr)) (fun _ s24 _ _ => p - (intOf s24).toNat)
                              case atStart => exact ⟨0, -1, Nat.zero_le _, rfl, rfl, .inl ⟨Nat.zero_le _, rfl⟩, HB2⟩
                              case round =>
                                clear HB2
                                obtain ⟨t, ov, ht, rfl, rfl, HO, HB⟩ := hrel
                                by_cases hltt : t < p
                                · obtain ⟨ap, cp, gc0, hmat⟩ := HPt.out t hltt
                                  have gc := (HB.out.cell (by exact hbP)).trans gc0
                                  have HC := hidIt (setEditCommands_any ap (P t).length cp wr)
                                  have hle : (P t).length ≤ i := by have := HP.out.le HK.out (Nat.le_refl _) t hltt; omega
                                  have H2p : Hid (Two (P t)) := two_of_rows H2.out (HP.out.rows t hltt)
                                  have Hmat := hidIt hmat
                                  have htp : (t : Int) < (p : Int) := by omega
                                  have HCn : Hid (∀ wx, Below w4.heap.size w4 wx → Calls Try.prog 40 #[.slice ap (P t).length cp, .string x] wx fun e w' => e = .returned (.int .i64 ((ofSet (P t) x).length : Nat)) ∧ w' = wx) := fun wx hb =>
                                    countSet_any w4.heap.size ap (P t).length cp (P t) x wx (by omega) hxs (Hmat.out.below hb) H2p.out
                                  have HSs : Hid (t = p0 → ∀ wx, Below w4.heap.size w4 wx → Calls Try.prog 42 #[.slice (some ⟨b, off, none⟩) i i, .slice ap (P t).length cp, .string x] wx fun e w' => e = .returned (.bool true) ∧ Drawn wx w') := fun ht0 wx hb =>
                                    sameSub_any w4.heap.size (some ⟨b, off, none⟩) i i R ap (P t).length cp (P t) x wx (by omega) (by omega) hxs (HM.out.below hb) (Hmat.out.below hb) H2.out H2p.out (by rw [ht0, E1.out])
                                  clear gc0 hmat
                                  have Hlen : Hid (t = p0 → (ofSet (P t) x).length = (ofSet R x).length) := fun h => by rw [h, E1.out]
                                  have Hzer : Hid (t ≠ p0 → (ofSet (P t) x).length = 0) := fun h => by rw [E2.out t hltt h]; rfl
                                  generalize (P t).length = lp at *
                                  go_wp2_with fail
                                  refine HC.out.mono ?_
                                  rintro e w'' ⟨rfl, hb'⟩
                                  have HB3 : Hid (Below w4.heap.size w4 w'') := HB.out.trans (hb'.mono HB.out.size)
                                  clear hb' HC HB gc
                                  by_cases htp0 : t = p0
                                  · have hl := Hlen.out htp0
                                    rw [hl] at HCn
                                    have HSs' := hidIt (HSs.out htp0)
                                    clear HSs Hlen Hzer hl
                                    have hov : ov = -1 := by rcases HO.out with h | h <;> omega
                                    subst hov
                                    generalize (ofSet R x).length = cx at *
                                    have hc0 : ((cx : Int) == 0) = false := by rw [beq_eq_false_iff_ne]; omega
                                    have hc1 : decide ((cx : Int) = 0) = false := decide_eq_false (by omega)
                                    go_wp2_with fail
                                    refine (HCn.out _ HB3.out).mono ?_
                                    intro e w5' h; obtain ⟨rfl, h⟩ := h; rw [h]; clear h w5'
                                    go_wp2_with fail
                                    refine (HSs'.out _ HB3.out).mono ?_
                                    rintro e w6 ⟨rfl, hd6⟩
                                    have HB6 : Hid (Below w4.heap.size w4 w6) := HB3.out.trans (hd6.below _)
                                    clear HB3 hd6
                                    go_wp2
                                    go_roundw
                                    case rel => exact ⟨t + 1, (p0 : Int), by omega, by go_num, rfl, .inr ⟨by omega, rfl⟩, HB6⟩
                                    case measure => simp [intOf]; omega
                                  · have hl := Hzer.out htp0
                                    rw [hl] at HCn
                                    clear HSs Hlen Hzer hl
                                    have HO' : Hid ((t + 1 ≤ p0 ∧ ov = -1) ∨ (p0 < t + 1 ∧ ov = (p0 : Int))) := by
                                      rcases HO.out with ⟨h1, h2⟩ | ⟨h1, h2⟩
                                      · exact .inl ⟨by omega, h2⟩
                                      · exact .inr ⟨by omega, h2⟩
                                    go_wp2_with fail
                                    refine (HCn.out _ HB3.out).mono ?_
                                    intro e w5' h; obtain ⟨rfl, h⟩ := h; rw [h]; clear h w5'
                                    go_wp2
                                    go_roundw
                                    case rel => exact ⟨t + 1, ov, by omega, by go_num, rfl, HO', HB3⟩
                                    case measure => simp [intOf]; omega
                                · have hov : ov = (p0 : Int) := by rcases HO.out with h | h <;> omega
                                  subst hov
                                  clear HO
                                  have hp00 : ¬ (p0 : Int) < 0 := by omega
                                  go_wp2
                                  go_roundw
                                  case rel => exact ⟨j + 1, by omega, by go_num, HB⟩
                                  case measure => simp [intOf]; omega
                          · have HF : Hid (Below w.heap.size w wr) := HB4.out.trans (HB.out.mono HB4.out.size)
                            go_wp2
                            go_ret
                            exact ⟨rfl, HF.out⟩
end Go.Proofs.Qxb6001662a.Wl
