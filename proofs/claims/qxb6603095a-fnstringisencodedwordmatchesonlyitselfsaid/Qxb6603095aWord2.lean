import Derived.Test.Qxb6603095aWord
namespace Go.Proofs.Qxb6603095a.Wk
open Go.RowKit
open Go.Proofs.Qxb6603095a.Pl
set_option linter.unusedVariables false

theorem numsOf_letter (s : ByteArray) (h : lettersB s.data.toList = true) : ∀ c ∈ numsOf s, isLetterB c = true := by
  intro c hc
  unfold numsOf at hc
  rw [List.mem_map] at hc
  obtain ⟨u, hu, rfl⟩ := hc
  unfold lettersB at h
  rw [List.all_eq_true] at h
  exact h u hu

theorem Drawn.below {w wr : World} (h : Drawn w wr) (B : Nat) : Below B w wr := by
  obtain ⟨m, rfl⟩ := h; exact below_drewN (Below.refl _ _) m

theorem numsOf_inj (s t : ByteArray) (h : numsOf s = numsOf t) : s = t := by
  unfold numsOf at h
  apply Go.WideShapes.bytes_inj
  have hinj : ∀ a b : UInt8, (a.toNat : Int) = (b.toNat : Int) → a = b := by
    intro a b hab
    exact UInt8.toNat_inj.1 (by omega)
  generalize s.data.toList = x at *
  generalize t.data.toList = y at *
  induction x generalizing y with
  | nil => cases y with
    | nil => rfl
    | cons _ _ => simp at h
  | cons a x ih => cases y with
    | nil => simp at h
    | cons b y =>
      simp only [List.map_cons, List.cons.injEq] at h
      rw [hinj a b h.1, ih y h.2]

theorem nums_beq (s t : ByteArray) : decide (numsOf s = numsOf t) = (t.toList == s.toList) := by
  by_cases h : s = t
  · subst h; simp
  · rw [decide_eq_false (fun e => h (numsOf_inj s t e))]
    symm
    rw [beq_eq_false_iff_ne]
    intro e
    rw [ByteArray.toList_eq, ByteArray.toList_eq] at e
    exact h (Go.WideShapes.bytes_inj e.symm)

set_option maxRecDepth 100000 in
set_option maxHeartbeats 2000000 in
theorem word_main (s : ByteArray) (a : Option Addr) (n c : Nat) (zs : List Int) (o : ByteArray) (w : World) (hn : n ≤ maxLen) (hs : s.size ≤ maxLen) (ho : o.size ≤ maxLen)
    (h1 : s.size + n + o.size ≤ 1048576) (h2 : s.size ≤ 65536) (h3 : n ≤ 65536) (hLs : lettersB s.data.toList = true) (hLo : lettersB o.data.toList = true)
    (h255 : ∀ i : Nat, 0 ≤ zs[i]?.getD 0 ∧ zs[i]?.getD 0 ≤ 255)
    (hcell : 0 < n → ∃ b off, a = some ⟨b, off, none⟩ ∧ b < w.heap.size ∧ ∀ i, i < n → w.cell? ⟨b, off + i, none⟩ = some (.int .u8 (zs[i]?.getD 0))) :
    Calls Try.prog 8 #[.string s, .slice a n c, .string o] w fun e w' => e = .returned (.bool true) ∧ Below w.heap.size w w' := by
  have hb27 := bytes27 s a n c o hn hs ho w
  have ha := allLetters_any s hs w
  have ha2 := allLetters_any o ho w
  rw [decide_eq_true h1] at hb27
  rw [hLs] at ha
  rw [hLo] at ha2
  unfold maxLen at hn hs ho
  have HB := hidIt hb27
  have HA := hidIt ha
  have HA2 := hidIt ha2
  have HC := hidIt hcell
  have H255 := hidIt h255
  have HLs := hidIt hLs
  have HLo := hidIt hLo
  clear hb27 ha ha2 hcell h255 hLs hLo
  obtain ⟨i0, hi, hz0, hz1, hz2⟩ := info_parts info5
  generalize hBw : w.heap.size = B at *
  have HBw := hidIt hBw
  go_enter Try.func8, Try.ntmps8
  go_wp2_with (first | (go_at_call 27; refine HB.out.mono ?_; intro e w' h; obtain ⟨rfl, h⟩ := h; rw [h]; clear h w'))
  refine HA.out.mono ?_
  intro e w' h; obtain ⟨rfl, h⟩ := h; rw [h]; clear h w'
  go_wp2_with fail
  refine HA2.out.mono ?_
  intro e w' h; obtain ⟨rfl, h⟩ := h; rw [h]; clear h w'
  clear HA HA2 HB
  go_wp2_with (first
    | (at_make; refine wpList_make_own _ rfl _ _ 22 rfl B 5 i0 (.int .u8 0) 1 Try.underlying22 hi hz0 hz1 _ _ _ (2 + 6 * s.size) rfl rfl (by omega) (by rw [hz2]; omega) (by unfold maxLen; omega) (by omega) ?_; intro w0 hown0 hgrow0; rw [hBw] at hown0; have hbel0 : Below B w w0 := (Below.refl _ _).grown hgrow0 (by omega) (fun k h => by cases h))
    | (at_builtin; refine wpList_append_fits _ rfl (.tmp 41) (.tmp 42) 22 rfl B 5 i0 1 Try.underlying22 hi hz1 B 0 (2 + 6 * s.size) [] rfl (hown0.alloc _) ⟨w0.heap.size, 0, none⟩ 1 1 [.int .u8 34] rfl rfl (by intro t u ht; match t, ht with | 0, ht => simp at ht; subst ht; simp [Addr.add]) (by intro u hu; simp at hu; subst hu; rfl) (by omega) ?_; intro w1 hown1 hgrow1; have hbel1 : Below B w w1 := (hbel0.alloc (by have := hbel0.size; omega) _).grown hgrow1 (by simp; have := hbel0.size; omega) (fun k hk => by cases hk; exact Nat.le_refl _); clear hgrow1 hown0 hbel0 hgrow0))
  go_loopw [7, 8] (fun q i wr => ∃ (k : Nat) (P : List (Int × Int)) (X : List Int), k ≤ s.size ∧ i = .int .i64 k ∧ X.length ≤ 1 + 6 * k ∧ q = .slice (some ⟨B, 0, none⟩) X.length (2 + 6 * s.size) ∧
      wr.ownsRow B 5 1 (.slice (some ⟨B, 0, none⟩) X.length (2 + 6 * s.size)) X.length (X.map (Value.int .u8)) ∧ Hid (P.map (·.1) = (numsOf s).take k ∧ X = 34 :: encL P) ∧ Below B w wr)
    (fun _ i _ => s.size - (intOf i).toNat)
  case atStart => exact ⟨0, [], [34], Nat.zero_le _, rfl, by simp, rfl, by simpa using hown1, ⟨rfl, rfl⟩, hbel1⟩
  case round =>
    obtain ⟨k, P, X, hk, rfl, hX, rfl, hown, HP, hnx⟩ := hrel
    have hBr : B ≤ wr.heap.size := by have := hnx.size; have := HBw.out; omega
    clear hown1 hbel1
    by_cases hlt : k < s.size
    · have hs1 : (0 : Int) ≤ (s[k].toNat : Int) := by omega
      have hs2 : (s[k].toNat : Int) ≤ 255 := by have := s[k].toNat_lt; omega
      have HE : Hid (∀ m : Int, 0 ≤ m → m ≤ 2 → Calls Try.prog 28 #[.slice (some ⟨B, 0, none⟩) X.length (2 + 6 * s.size), .int .u8 (s[k].toNat : Int), .int .i64 m] wr fun e w' =>
          e = .returned (.slice (some ⟨B, 0, none⟩) (X ++ enc (s[k].toNat : Int) m).length (2 + 6 * s.size)) ∧
          w'.ownsRow B 5 1 (.slice (some ⟨B, 0, none⟩) (X ++ enc (s[k].toNat : Int) m).length (2 + 6 * s.size)) (X ++ enc (s[k].toNat : Int) m).length ((X ++ enc (s[k].toNat : Int) m).map (Value.int .u8)) ∧ Below B w w') := by
        intro m hm0 hm2
        have hl := enc_len (s[k].toNat : Int) m
        refine (encode_any B B X.length (2 + 6 * s.size) X (s[k].toNat : Int) m wr hs1 hs2 hm0 hm2 (by omega) hown).mono ?_
        rintro e w' ⟨rfl, hg⟩
        rw [List.length_append]
        exact ⟨rfl, hg.own, hg.bel w B hnx (Nat.le_refl _) hBr⟩
      have HN : Hid (∀ m : Int, (P ++ [((s[k].toNat : Int), m)]).map (·.1) = (numsOf s).take (k + 1) ∧ X ++ enc (s[k].toNat : Int) m = 34 :: encL (P ++ [((s[k].toNat : Int), m)])) := by
        intro m
        refine ⟨?_, ?_⟩
        · rw [List.map_append, HP.out.1, List.take_succ_eq_append_getElem (by rw [numsOf_length]; exact hlt)]
          have := numsOf_get s k hlt
          rw [List.getElem?_eq_getElem (by rw [numsOf_length]; exact hlt)] at this
          simp at this
          simp [this]
        · rw [encL_snoc, HP.out.2]; rfl
      have HX : Hid (∀ m : Int, (X ++ enc (s[k].toNat : Int) m).length ≤ 1 + 6 * (k + 1)) := by
        intro m
        have hl := enc_len (s[k].toNat : Int) m
        rw [List.length_append]; omega
      clear HP hown
      by_cases hkn : k < n
      · obtain ⟨b, off, rfl, hb, hc⟩ := HC.out (by omega)
        have g0 : wr.cell? ⟨b, off + k, none⟩ = some (.int .u8 (zs[k]?.getD 0)) := (hnx.cell (by exact hb)).trans (hc k hkn)
        obtain ⟨b1, b2⟩ := H255.out k
        clear hc HC H255
        generalize zs[k]?.getD 0 = z at *
        have z1 : 0 ≤ z % 3 := by omega
        have z2 : z % 3 ≤ 2 := by omega
        go_wp2_with (go_at_call 28; refine (HE.out (z % 3) z1 z2).mono ?_; rintro e w' ⟨rfl, hown', hbel'⟩)
        go_roundw
        case rel => exact ⟨k + 1, P ++ [((s[k].toNat : Int), z % 3)], X ++ enc (s[k].toNat : Int) (z % 3), by omega, by go_num, HX.out _, by rw [List.length_append], hown', HN.out _, hbel'⟩
        case measure => simp [intOf]; omega
      · go_wp2_with (go_at_call 28; refine (HE.out 0 (by omega) (by omega)).mono ?_; rintro e w' ⟨rfl, hown', hbel'⟩)
        go_roundw
        case rel => exact ⟨k + 1, P ++ [((s[k].toNat : Int), 0)], X ++ enc (s[k].toNat : Int) 0, by omega, by go_num, HX.out _, by rw [List.length_append], hown', HN.out _, hbel'⟩
        case measure => simp [intOf]; omega
    · have hkE : k = s.size := by omega
      have hPs : P.map (·.1) = numsOf s := by rw [HP.out.1, List.take_of_length_le (by rw [numsOf_length]; omega)]
      have hXE := HP.out.2
      have hdec : dec P.length (encL P) = some (numsOf s) := by
        rw [← hPs]; exact dec_encL P (letter_all P (numsOf s) hPs (fun c hc => numsOf_letter s HLs.out c hc))
      have HD := hidIt hdec
      have HXE := hidIt hXE
      have hXl : X.length = (encL P).length + 1 := by rw [hXE]; rfl
      have HXl := hidIt hXl
      clear HP hPs hXE hdec hXl HC H255 hkE
      go_wp2_with (at_builtin; refine wpList_append_fits _ rfl (.tmp 66) (.tmp 67) 22 rfl B 5 i0 1 Try.underlying22 hi hz1 B X.length (2 + 6 * s.size) _ rfl (hown.alloc _) ⟨wr.heap.size, 0, none⟩ 1 1 [.int .u8 34] rfl rfl (by intro t u ht; match t, ht with | 0, ht => simp at ht; subst ht; simp [Addr.add]) (by intro u hu; simp at hu; subst hu; rfl) (by omega) ?_; intro w2 hown2 hgrow2)
      have hbel2 : Below B w w2 := (hnx.alloc hBr _).grown hgrow2 (by simp; omega) (fun k hk => by cases hk; exact Nat.le_refl _)
      have HC2 : Hid (∀ i, i < (encL P).length → w2.cell? ⟨B, 0 + 1 + i, none⟩ = some (.int .u8 ((encL P)[i]?.getD 0))) := by
        intro i hi
        have e : (X.map (Value.int .u8) ++ [Value.int .u8 34])[0 + 1 + i]? = some (.int .u8 ((encL P)[i]?.getD 0)) := by
          rw [HXE.out, List.getElem?_append_left (by simp; omega), List.getElem?_map, show 0 + 1 + i = i + 1 from by omega, List.getElem?_cons_succ, List.getElem?_eq_getElem hi]
          rfl
        rw [hown2.cellAt (0 + 1 + i) (by have := HXl.out; omega), e]
      have HF : Hid (∀ (t : ByteArray) wx, t.size ≤ maxLen → lettersB t.data.toList = true → Drawn w2 wx → Calls Try.prog 26 #[.slice (some ⟨B, 0, none⟩) (X.length + 1) (2 + 6 * s.size), .string t] wx fun e w' => e = .returned (.bool (decide (numsOf s = numsOf t))) ∧ Drawn wx w') := by
        intro t wx ht hlt hwx
        have hl := encL_len P
        exact stringIs_any B 0 (X.length + 1) (2 + 6 * s.size) (encL P) t (numsOf s) P.length wx (by have := HXl.out; omega) (by omega) (by unfold maxLen; omega) ht hlt HD.out (fun i hi => (hwx.cell _).trans (HC2.out i hi))
      clear HC2 HD HXE HXl hown2 hgrow2 hown
      refine (HF.out s _ (by unfold maxLen; omega) HLs.out (Drawn.refl _)).mono ?_
      rintro e w3 ⟨rfl, hd3⟩
      rw [decide_eq_true rfl]
      go_wp2_with fail
      refine (HF.out o _ (by unfold maxLen; omega) HLo.out hd3).mono ?_
      rintro e w4 ⟨rfl, hd4⟩
      generalize hbb : decide (numsOf s = numsOf o) = bb at *
      have HBB := hidIt hbb
      clear hbb
      go_wp2
      go_ret
      exact ⟨ret_bool (by rw [← HBB.out, nums_beq]; exact beq_self_eq_true _), hbel2.trans ((hd3.below _).trans (hd4.below _))⟩
end Go.Proofs.Qxb6603095a.Wk
