import Derived.Test.Qxb6001662aLeaf
namespace Go.Proofs.Qxb6001662a.Wl
open Go.RowKit
open Go.Proofs.Qxb6001662a.Pl Go.Proofs.Qxb6001662a.Bs
set_option linter.unusedVariables false

theorem row_put {w : World} {G n k : Nat} {f : Nat → Int} (h : w.rowIs G 5 n (fun i => .int .u8 (if i < k then f i else 0))) : (w.setCell ⟨G, k, none⟩ (.int .u8 (f k))).rowIs G 5 n (fun i => .int .u8 (if i < k + 1 then f i else 0)) := by
  refine (h.set k (.int .u8 (f k))).congr (fun i hi => ?_)
  by_cases e : i = k
  · subst e; simp
  · simp only [if_neg e]
    by_cases h : i < k
    · rw [if_pos h, if_pos (by omega)]
    · rw [if_neg h, if_neg (by omega)]

set_option maxHeartbeats 1000000 in
theorem cloneB_any (B : Nat) (a : Option Addr) (n c : Nat) (Z : List Int) (w : World) (hn : n ≤ 1048576) (hB : B ≤ w.heap.size) (hT : TextIn w B a n Z) :
    Calls Try.prog 19 #[.slice a n c] w fun e w' => ∃ a' c', e = .returned (.slice a' n c') ∧ TextIn w' w'.heap.size a' n Z ∧ Below w.heap.size w w' := by
  cases a with
  | none =>
    have hn0 := hT.none_len
    subst hn0
    have heq := fun wx => Lib.run_eql_slice_nil (P := Try.prog) wx 25 5 none 0 c 0 0 Try.underlying25
    have HT := hidIt hT
    clear hT
    go_enter Try.func19, Try.ntmps19
    go_wp2
    go_ret
    exact ⟨none, 0, rfl, (HT.out.mono hB), Below.refl _ _⟩
  | some x =>
    have heq := fun wx => Lib.run_eql_slice_nil (P := Try.prog) wx 25 5 (some x) n c 0 0 Try.underlying25
    have HT := hidIt hT
    clear hT
    obtain ⟨w0, hmk, hsz, hb0, hr0⟩ := make_bytes n hn w
    have HR0 := hidIt hr0
    generalize hG : w.heap.size = G at *
    have HG := hidIt hG
    clear hr0
    go_enter Try.func19, Try.ntmps19
    go_wp2
    clear hG
    go_loopw [4] (fun i wr => ∃ k : Nat, k ≤ n ∧ i = .int .i64 k ∧ Hid (wr.rowIs G 5 n (fun i => .int .u8 (if i < k then Z[i]?.getD 0 else 0))) ∧ Below G w wr) (fun i _ => n - (intOf i).toNat)
    case atStart => exact ⟨0, Nat.zero_le _, rfl, HR0.out.congr (fun i _ => by simp), hb0⟩
    case round =>
      obtain ⟨k, hk, rfl, HR, hnx⟩ := hrel
      by_cases hlt : k < n
      · obtain ⟨b, off, hx, hbB, hc⟩ := HT.out.2.2 (by omega)
        cases hx
        have g : wr.cell? ⟨b, off + k, none⟩ = some (.int .u8 (Z[k]?.getD 0)) := (hnx.cell (show b < G by omega)).trans (hc k hlt)
        have gw := HR.out.cell hlt
        have gf := HR.out.frozen k
        have hne : G ≠ b := by omega
        have HR' : Hid ((wr.setCell ⟨G, k, none⟩ (.int .u8 (Z[k]?.getD 0))).rowIs G 5 n (fun i => .int .u8 (if i < k + 1 then Z[i]?.getD 0 else 0))) := row_put (f := fun i => Z[i]?.getD 0) HR.out
        clear HR hc
        generalize Z[k]?.getD 0 = x at *
        go_wp2
        go_roundw
        case rel => exact ⟨k + 1, by omega, by go_num, HR', hnx.setCell (by exact Nat.le_refl _) _⟩
        case measure => simp [intOf]; omega
      · have HF : Hid (TextIn wr wr.heap.size (some ⟨G, 0, none⟩) n Z) := by
          refine text_of_row HT.out.1 HT.out.2.1 (HR.out.congr (fun i hi => ?_))
          rw [if_pos (by omega)]
        go_wp2
        go_ret
        exact ⟨some ⟨G, 0, none⟩, n, rfl, HF.out, hnx⟩

theorem below_set {B : Nat} {w1 wr : World} (h : Below B w1 wr) (G k : Nat) (hG : B ≤ G) (v : Value) : Below B w1 (wr.setCell ⟨G, k, none⟩ v) := h.setCell (by exact hG) v
theorem row_put2 {w : World} {G n k : Nat} {f : Nat → Int} (u : Value) (h : w.rowIs G 5 n (fun i => .int .u8 (if i < k then f i else 0))) : ((w.setCell ⟨G, k, none⟩ u).setCell ⟨G, k, none⟩ (.int .u8 (f k))).rowIs G 5 n (fun i => .int .u8 (if i < k + 1 then f i else 0)) := by
  refine ((h.set k u).set k (.int .u8 (f k))).congr (fun i hi => ?_)
  by_cases e : i = k
  · subst e; simp
  · simp only [if_neg e]
    by_cases h : i < k
    · rw [if_pos h, if_pos (by omega)]
    · rw [if_neg h, if_neg (by omega)]
theorem row_text {w : World} {G n : Nat} {Z : List Int} (f : Int → Int) (hf : ∀ b, 0 ≤ b ∧ b ≤ 255 → 0 ≤ f b ∧ f b ≤ 255) (hZ : Z.length = n) (hb : ∀ i : Nat, 0 ≤ Z[i]?.getD 0 ∧ Z[i]?.getD 0 ≤ 255) {k : Nat} (hk : n ≤ k) (h : w.rowIs G 5 n (fun i => .int .u8 (if i < k then f (Z[i]?.getD 0) else 0))) : TextIn w w.heap.size (some ⟨G, 0, none⟩) n (Z.map f) := by
  refine text_of_row (by rw [List.length_map]; exact hZ) (map_bd f hf Z hb) (h.congr (fun i hi => ?_))
  rw [if_pos (by omega), map_get f Z i (by omega)]
theorem numsOf_join (L : List Int) (hL : ∀ i : Nat, 0 ≤ L[i]?.getD 0 ∧ L[i]?.getD 0 ≤ 255) (t : ByteArray) : numsOf (strOfNums L ++ t) = L ++ numsOf t := by
  unfold numsOf
  rw [ByteArray.data_append, Array.toList_append, List.map_append, strOfNums_data, List.map_map]
  congr 1
  refine List.ext_getElem (by simp) (fun i h1 h2 => ?_)
  rw [List.getElem_map]
  have := hL i
  rw [List.getElem?_eq_getElem h2, Option.getD_some] at this
  simp only [Function.comp_apply, UInt8.toNat_ofNat']
  omega

set_option maxRecDepth 100000 in
set_option maxHeartbeats 4000000 in
theorem fn4_main (a : Option Addr) (n c : Nat) (Z : List Int) (s : ByteArray) (w : World) (hn : n ≤ maxLen) (hs : s.size ≤ maxLen) (hT : TextIn w w.heap.size a n Z) :
    Calls Try.prog 4 #[.slice a n c, .string s] w fun e w' => e = .returned (.bool true) ∧ Below w.heap.size w w' := by
  have HZ := hidIt (zzBytes18_any a n c s w hn hs)
  have HT := hidIt hT
  clear hT
  unfold maxLen at hn hs
  go_enter Try.func4, Try.ntmps4
  go_wp2_with fail
  refine HZ.out.mono ?_
  intro e w' h; obtain ⟨⟨b0, rfl⟩, h⟩ := h; rw [h]; clear h w' HZ
  cases b0 with
  | false =>
    go_wp2
    go_ret
    exact ⟨rfl, Below.refl _ _⟩
  | true =>
  by_cases hn1 : n ≤ 524288
  case neg =>
    go_wp2
    go_ret
    exact ⟨rfl, Below.refl _ _⟩
  by_cases hs1 : s.size ≤ 524288
  case neg =>
    go_wp2
    go_ret
    exact ⟨rfl, Below.refl _ _⟩
  by_cases hns : n ≤ s.size
  case neg =>
    go_wp2
    go_ret
    exact ⟨rfl, Below.refl _ _⟩
  have HC := hidIt (cloneB_any w.heap.size a n c Z w (by omega) (Nat.le_refl _) HT.out)
  go_wp2_with fail
  refine HC.out.mono ?_
  rintro e w1 ⟨a1, c1, rfl, hT1, hb1⟩
  have HT1 := hidIt hT1
  clear HC hT1 HT
  have HE := hidIt (zzEqualFold_any w1.heap.size a1 n c1 Z s w1 (by omega) (by unfold maxLen; omega) hns HT1.out)
  generalize hgb : eqf Z (numsOf s) = gb at *
  have Hgb := hidIt hgb
  clear hgb
  go_wp2_with fail
  refine HE.out.mono ?_
  intro e w' h; obtain ⟨rfl, h⟩ := h; rw [h]; clear h w' HE
  obtain ⟨wa, mka, sa, ba, ra⟩ := make_bytes n (by omega) w1
  obtain ⟨wb, mkb, sb, bb, rb⟩ := make_bytes n (by omega) wa
  obtain ⟨wd, mkd, sd, bd, rd⟩ := make_bytes n (by omega) wb
  have r1 : wd.rowIs w1.heap.size 5 n (fun _ => .int .u8 0) := (ra.of_block (bb.block _ ra.lt)).of_block (bd.block _ (by omega))
  have r2 : wd.rowIs wa.heap.size 5 n (fun _ => .int .u8 0) := rb.of_block (bd.block _ rb.lt)
  have hbd : Below w1.heap.size w1 wd := (ba.trans (bb.mono (by omega))).trans (bd.mono (by omega))
  rw [sb, sa] at mkd rd
  rw [sa] at mkb r2
  have hLt : Hid (wd.heap.size = w1.heap.size + 3) := by show _ = _; omega
  have HGw : Hid (w.heap.size ≤ w1.heap.size) := hb1.size
  generalize hG : w1.heap.size = G at *
  have HGG : Hid (w1.heap.size = G) := hG
  have HR1 := hidIt r1
  have HR2 := hidIt r2
  have HR3 := hidIt rd
  clear r1 r2 rd ra rb sa sb sd ba bb bd
  have HbG := hidIt hbd
  have Hb1 := hidIt hb1
  clear hbd hb1
  go_wp2
  clear mka mkb mkd hG
  generalize hG3 : G + 1 + 1 = G3 at *
  generalize hG2 : G + 1 = G2 at *
  have HG2 := hidIt hG2
  have HG3 := hidIt hG3
  have HGs : Hid (w1.heap.size = G) := HGG
  clear hG2 hG3
  go_loopw [9] (fun i wr => ∃ k : Nat, k ≤ n ∧ i = .int .i64 k ∧ Hid (wr.rowIs G 5 n (fun i => .int .u8 (if i < k then flipI (Z[i]?.getD 0) else 0))) ∧ Hid (wr.rowIs G2 5 n (fun i => .int .u8 (if i < k then upI (Z[i]?.getD 0) else 0))) ∧ Hid (wr.rowIs G3 5 n (fun i => .int .u8 (if i < k then lowI (Z[i]?.getD 0) else 0))) ∧ Hid (Below G w1 wr)) (fun i _ => n - (intOf i).toNat)
  case atStart => exact ⟨0, Nat.zero_le _, rfl, HR1.out.congr (fun i _ => by simp), HR2.out.congr (fun i _ => by simp), HR3.out.congr (fun i _ => by simp), HbG⟩
  case round =>
    obtain ⟨k, hk, rfl, HA, HB, HC, HD⟩ := hrel
    clear HR1 HR2 HR3 HbG
    have e2 := HG2.out
    have e3 := HG3.out
    by_cases hlt : k < n
    · obtain ⟨b, off, rfl, hbG, hc⟩ := HT1.out.2.2 (by omega)
      have g : wr.cell? ⟨b, off + k, none⟩ = some (.int .u8 (Z[k]?.getD 0)) := (HD.out.cell (by exact hbG)).trans (hc k hlt)
      have fa := HA.out.cell hlt
      have fa' := HA.out.frozen k
      have fb := HB.out.cell hlt
      have fb' := HB.out.frozen k
      have fc := HC.out.cell hlt
      have fc' := HC.out.frozen k
      have hlt' : (k : Int) < (n : Int) := by omega
      have ne1 : G ≠ b := by omega
      have ne2 : G2 ≠ b := by omega
      have ne3 : G3 ≠ b := by omega
      have ne4 : G ≠ G2 := by omega
      have ne5 : G ≠ G3 := by omega
      have ne6 : G2 ≠ G3 := by omega
      have z := HT1.out.2.1 k
      have HFl := hidIt (fun wx => flip_any (Z[k]?.getD 0) z wx)
      have HLo := hidIt (fun wx => lower_any (Z[k]?.getD 0) z wx)
      have HIl := hidIt (fun wx => isLower_any (Z[k]?.getD 0) z wx)
      obtain ⟨z0, z1⟩ := z
      by_cases hl : 97 ≤ Z[k]?.getD 0 ∧ Z[k]?.getD 0 ≤ 122
      · have eu : upI (Z[k]?.getD 0) = Z[k]?.getD 0 - 32 := by unfold upI; rw [if_pos hl]
        have ei : isLowI (Z[k]?.getD 0) = true := by simp [isLowI, hl]
        rw [ei] at HIl
        have HA' : Hid (((((wr.setCell ⟨G, k, none⟩ (.int .u8 (flipI (Z[k]?.getD 0)))).setCell ⟨G2, k, none⟩ (.int .u8 (Z[k]?.getD 0))).setCell ⟨G2, k, none⟩ (.int .u8 (Z[k]?.getD 0 - 32))).setCell ⟨G3, k, none⟩ (.int .u8 (lowI (Z[k]?.getD 0)))).rowIs G 5 n (fun i => .int .u8 (if i < k + 1 then flipI (Z[i]?.getD 0) else 0))) :=
          ((((row_put (f := fun i => flipI (Z[i]?.getD 0)) HA.out).setOther ne4 _).setOther ne4 _).setOther ne5 _)
        have HB' : Hid (((((wr.setCell ⟨G, k, none⟩ (.int .u8 (flipI (Z[k]?.getD 0)))).setCell ⟨G2, k, none⟩ (.int .u8 (Z[k]?.getD 0))).setCell ⟨G2, k, none⟩ (.int .u8 (Z[k]?.getD 0 - 32))).setCell ⟨G3, k, none⟩ (.int .u8 (lowI (Z[k]?.getD 0)))).rowIs G2 5 n (fun i => .int .u8 (if i < k + 1 then upI (Z[i]?.getD 0) else 0))) := by
          have h := (row_put2 (f := fun i => upI (Z[i]?.getD 0)) (.int .u8 (Z[k]?.getD 0)) (HB.out.setOther (a := ⟨G, k, none⟩) ne4.symm (.int .u8 (flipI (Z[k]?.getD 0))))).setOther (a := ⟨G3, k, none⟩) ne6 (.int .u8 (lowI (Z[k]?.getD 0)))
          simp only [eu] at h
          exact h
        have HC' : Hid (((((wr.setCell ⟨G, k, none⟩ (.int .u8 (flipI (Z[k]?.getD 0)))).setCell ⟨G2, k, none⟩ (.int .u8 (Z[k]?.getD 0))).setCell ⟨G2, k, none⟩ (.int .u8 (Z[k]?.getD 0 - 32))).setCell ⟨G3, k, none⟩ (.int .u8 (lowI (Z[k]?.getD 0)))).rowIs G3 5 n (fun i => .int .u8 (if i < k + 1 then lowI (Z[i]?.getD 0) else 0))) :=
          row_put (f := fun i => lowI (Z[i]?.getD 0)) (((HC.out.setOther (a := ⟨G, k, none⟩) ne5.symm _).setOther (a := ⟨G2, k, none⟩) ne6.symm _).setOther (a := ⟨G2, k, none⟩) ne6.symm _)
        have HD' : Hid (Below G w1 ((((wr.setCell ⟨G, k, none⟩ (.int .u8 (flipI (Z[k]?.getD 0)))).setCell ⟨G2, k, none⟩ (.int .u8 (Z[k]?.getD 0))).setCell ⟨G2, k, none⟩ (.int .u8 (Z[k]?.getD 0 - 32))).setCell ⟨G3, k, none⟩ (.int .u8 (lowI (Z[k]?.getD 0))))) :=
          below_set (below_set (below_set (below_set HD.out G k (by omega) _) G2 k (by omega) _) G2 k (by omega) _) G3 k (by omega) _
        obtain ⟨l0, l1⟩ := hl
        clear HA HB HC HD hc eu ei e2 e3
        generalize Z[k]?.getD 0 = x at *
        generalize flipI x = xf at *
        generalize lowI x = xl at *
        go_wp2_with (first | (go_at_call 21; refine (HFl.out _).mono ?_; intro e w' h; obtain ⟨rfl, h⟩ := h; rw [h]; clear h w') | (go_at_call 22; refine (HIl.out _).mono ?_; intro e w' h; obtain ⟨rfl, h⟩ := h; rw [h]; clear h w') | (go_at_call 23; refine (HLo.out _).mono ?_; intro e w' h; obtain ⟨rfl, h⟩ := h; rw [h]; clear h w'))
        go_roundw
        case rel => exact ⟨k + 1, by omega, by go_num, HA', HB', HC', HD'⟩
        case measure => simp [intOf]; omega
      · have eu : upI (Z[k]?.getD 0) = Z[k]?.getD 0 := by unfold upI; rw [if_neg hl]
        have ei : isLowI (Z[k]?.getD 0) = false := by
          rw [isLowI, Bool.and_eq_false_iff, decide_eq_false_iff_not, decide_eq_false_iff_not]; omega
        rw [ei] at HIl
        have HA' : Hid ((((wr.setCell ⟨G, k, none⟩ (.int .u8 (flipI (Z[k]?.getD 0)))).setCell ⟨G2, k, none⟩ (.int .u8 (Z[k]?.getD 0))).setCell ⟨G3, k, none⟩ (.int .u8 (lowI (Z[k]?.getD 0)))).rowIs G 5 n (fun i => .int .u8 (if i < k + 1 then flipI (Z[i]?.getD 0) else 0))) :=
          (((row_put (f := fun i => flipI (Z[i]?.getD 0)) HA.out).setOther ne4 _).setOther ne5 _)
        have HB' : Hid ((((wr.setCell ⟨G, k, none⟩ (.int .u8 (flipI (Z[k]?.getD 0)))).setCell ⟨G2, k, none⟩ (.int .u8 (Z[k]?.getD 0))).setCell ⟨G3, k, none⟩ (.int .u8 (lowI (Z[k]?.getD 0)))).rowIs G2 5 n (fun i => .int .u8 (if i < k + 1 then upI (Z[i]?.getD 0) else 0))) := by
          have h := (row_put (f := fun i => upI (Z[i]?.getD 0)) (HB.out.setOther (a := ⟨G, k, none⟩) ne4.symm (.int .u8 (flipI (Z[k]?.getD 0))))).setOther (a := ⟨G3, k, none⟩) ne6 (.int .u8 (lowI (Z[k]?.getD 0)))
          simp only [eu] at h
          exact h
        have HC' : Hid ((((wr.setCell ⟨G, k, none⟩ (.int .u8 (flipI (Z[k]?.getD 0)))).setCell ⟨G2, k, none⟩ (.int .u8 (Z[k]?.getD 0))).setCell ⟨G3, k, none⟩ (.int .u8 (lowI (Z[k]?.getD 0)))).rowIs G3 5 n (fun i => .int .u8 (if i < k + 1 then lowI (Z[i]?.getD 0) else 0))) :=
          row_put (f := fun i => lowI (Z[i]?.getD 0)) ((HC.out.setOther (a := ⟨G, k, none⟩) ne5.symm _).setOther (a := ⟨G2, k, none⟩) ne6.symm _)
        have HD' : Hid (Below G w1 (((wr.setCell ⟨G, k, none⟩ (.int .u8 (flipI (Z[k]?.getD 0)))).setCell ⟨G2, k, none⟩ (.int .u8 (Z[k]?.getD 0))).setCell ⟨G3, k, none⟩ (.int .u8 (lowI (Z[k]?.getD 0))))) :=
          below_set (below_set (below_set HD.out G k (by omega) _) G2 k (by omega) _) G3 k (by omega) _
        clear HA HB HC HD hc eu ei e2 e3 hl
        generalize Z[k]?.getD 0 = x at *
        generalize flipI x = xf at *
        generalize lowI x = xl at *
        go_wp2_with (first | (go_at_call 21; refine (HFl.out _).mono ?_; intro e w' h; obtain ⟨rfl, h⟩ := h; rw [h]; clear h w') | (go_at_call 22; refine (HIl.out _).mono ?_; intro e w' h; obtain ⟨rfl, h⟩ := h; rw [h]; clear h w') | (go_at_call 23; refine (HLo.out _).mono ?_; intro e w' h; obtain ⟨rfl, h⟩ := h; rw [h]; clear h w'))
        go_roundw
        case rel => exact ⟨k + 1, by omega, by go_num, HA', HB', HC', HD'⟩
        case measure => simp [intOf]; omega
    · have hkn : n ≤ k := by omega
      have tA := row_text flipI flip_bd HT1.out.1 HT1.out.2.1 hkn HA.out
      have tB := row_text upI up_bd HT1.out.1 HT1.out.2.1 hkn HB.out
      have tC := row_text lowI low_bd HT1.out.1 HT1.out.2.1 hkn HC.out
      have hEA := zzEqualFold_any _ _ n n _ s wr (by omega) (by unfold maxLen; omega) hns tA
      rw [eqf_map flipI low_flip, Hgb.out] at hEA
      have hEB := zzEqualFold_any _ _ n n _ s wr (by omega) (by unfold maxLen; omega) hns tB
      rw [eqf_map upI low_up, Hgb.out] at hEB
      have HEA := hidIt hEA
      have HEB := hidIt hEB
      have hconv : ∀ nq, (convert 25 9 (.slice (some ⟨G3, 0, none⟩) n n)).run Try.prog (wr.drewN nq) = .ok (.string (strOfNums (Z.map lowI))) (wr.drewN nq) := fun nq => conv_any (tC.drawn ⟨nq, rfl⟩)
      have hconv0 := hconv 0
      have hsl := (strOfNums_size (Z.map lowI))
      rw [List.length_map, HT1.out.1] at hsl
      have HE3 : Hid (∀ nq, Calls Try.prog 20 #[.slice a1 n c1, .string (strOfNums (Z.map lowI) ++ s.extract n s.size)] (wr.drewN nq) fun e w' => e = .returned (.bool true) ∧ w' = wr.drewN nq) := by
        intro nq
        have h := zzEqualFold_any G a1 n c1 Z (strOfNums (Z.map lowI) ++ s.extract n s.size) (wr.drewN nq) (by omega) (by rw [ByteArray.size_append, ByteArray.size_extract, hsl]; unfold maxLen; omega) (by rw [ByteArray.size_append, hsl]; omega) ((HT1.out.below HD.out).drawn ⟨nq, rfl⟩)
        rw [numsOf_join _ tC.2.1, eqf_own] at h
        exact h
      have hbe : Below w.heap.size w wr := Hb1.out.trans (HD.out.mono HGw.out)
      have Hbe := hidIt hbe
      clear hEA hEB tA tB tC HA HB HC HD hbe
      have hgg : (gb != gb) = false := by cases gb <;> rfl
      generalize strOfNums (Z.map lowI) = sl at *
      go_wp2_with fail
      refine HEA.out.mono ?_
      intro e w' h; obtain ⟨rfl, h⟩ := h; rw [h]; clear h w'
      go_wp2_with fail
      refine HEB.out.mono ?_
      intro e w' h; obtain ⟨rfl, h⟩ := h; rw [h]; clear h w'
      go_wp2_with fail
      go_quiet ((go_at_call 20; exact Calls.quiet_of_same (HE3.out _)))
      cases gb with
      | false =>
        go_wp2
        go_ret
        exact ⟨rfl, Hbe.out.trans ((Drawn.more (Drawn.refl _) _).below _)⟩
      | true =>
        go_wp2
        go_loop [10] (fun i => ∃ k : Nat, k ≤ n ∧ i = .int .i64 k) (fun i => n - (intOf i).toNat)
        case atStart => exact ⟨0, Nat.zero_le _, rfl⟩
        case round =>
          clear hlt hk hkn
          obtain ⟨k, hk, rfl⟩ := hrel
          by_cases hlt : k < n
          · have hks : k < s.size := by omega
            have hx1 : (0 : Int) ≤ (s[k].toNat : Int) := by omega
            have hx2 : (s[k].toNat : Int) ≤ 255 := by have := s[k].toNat_lt; omega
            have hu : isUpI (s[k].toNat : Int) = false := by
              have := (eqf_iff _ _).1 Hgb.out k (by rw [HT1.out.1]; exact hlt)
              rw [numsOf_get s k hks] at this
              rw [← this]
              exact low_low _
            have HU := hidIt (fun wx => isUpper_any (s[k].toNat : Int) ⟨hx1, hx2⟩ wx)
            rw [hu] at HU
            clear hu
            have hks' : (k : Int) < (s.size : Int) := by omega
            go_wp2_with (go_at_call 24; refine (HU.out _).mono ?_; intro e w' h; obtain ⟨rfl, h⟩ := h; rw [h]; clear h w')
            go_round
            case rel => exact ⟨k + 1, by omega, by go_num⟩
            case measure => simp [intOf]; omega
          · go_wp2
            go_ret
            exact ⟨rfl, Hbe.out.trans ((Drawn.more (Drawn.refl _) _).below _)⟩
end Go.Proofs.Qxb6001662a.Wl
