import Derived.Test.Qxb6603095aScalar
namespace Go.Proofs.Qxb6603095a.Wn
open Go.RowKit
open Go.Proofs.Qxb6603095a.Pl Go.Proofs.Qxb6603095a.Bs
set_option linter.unusedVariables false

/-- the slice's address: nil and empty, or plain -/
def PlainAt (a : Option Addr) (n : Nat) : Prop := (a = none ∧ n = 0) ∨ ∃ b off, a = some ⟨b, off, none⟩

theorem conv_text (a : Option Addr) (n c : Nat) (Z : List Int) (w : World) (hp : PlainAt a n) (hT : TextAt w a n Z) :
    (convert 22 9 (.slice a n c)).run Try.prog w = .ok (.string (strOfNums Z)) w := by
  obtain ⟨hl, hbd, hcell⟩ := hT
  rcases hp with ⟨rfl, rfl⟩ | ⟨b, off, rfl⟩
  · have : Z = [] := List.eq_nil_of_length_eq_zero hl
    subst this
    exact run_convert_bytes_nil w 22 5 Try.underlying22 Try.underlying5 0 c 9 Try.underlying9
  · refine run_convert_bytes_arg w 22 5 Try.underlying22 Try.underlying5 b off n c Z hl (fun i hi => ?_) 9 Try.underlying9
    obtain ⟨b', off', e, h⟩ := hcell (by omega)
    simp at e
    obtain ⟨rfl, rfl⟩ := e
    rw [h i hi]; simp

theorem isScalar_any (a : Option Addr) (n c : Nat) (Z : List Int) (w : World) (hn : n ≤ maxLen) (hp : PlainAt a n) (hT : TextAt w a n Z) :
    Calls Try.prog 31 #[.slice a n c] w fun e w' => e = .returned (.bool (wordB Z || numL Z)) ∧ w' = w := by
  have hconv := conv_text a n c Z w hp hT
  have hbd := hT.2.1
  have hl := hT.1
  cases hw : wordB Z with
  | true =>
    have e1 := strOfNums_eq Z hbd [116, 114, 117, 101]
    have e2 := strOfNums_eq Z hbd [102, 97, 108, 115, 101]
    have e3 := strOfNums_eq Z hbd [110, 117, 108, 108]
    rw [Bool.true_or]
    unfold wordB at hw
    simp only [List.map_cons, List.map_nil] at e1 e2 e3
    have e1' : ((strOfNums Z).toList == [116, 114, 117, 101]) = decide (Z = [116, 114, 117, 101]) := e1
    have e2' : ((strOfNums Z).toList == [102, 97, 108, 115, 101]) = decide (Z = [102, 97, 108, 115, 101]) := e2
    have e3' : ((strOfNums Z).toList == [110, 117, 108, 108]) = decide (Z = [110, 117, 108, 108]) := e3
    clear e1 e2 e3 hT hbd
    generalize decide (Z = [116, 114, 117, 101]) = x1 at *
    generalize decide (Z = [102, 97, 108, 115, 101]) = x2 at *
    generalize decide (Z = [110, 117, 108, 108]) = x3 at *
    clear hl
    cases x1
    · cases x2
      · cases x3
        · cases hw
        · clear hw
          go_enter Try.func31, Try.ntmps31
          go_wp2
          go_ret
          exact ⟨rfl, rfl⟩
      · clear hw
        go_enter Try.func31, Try.ntmps31
        go_wp2
        go_ret
        exact ⟨rfl, rfl⟩
    · clear hw
      go_enter Try.func31, Try.ntmps31
      go_wp2
      go_ret
      exact ⟨rfl, rfl⟩
  | false =>
    rw [Bool.false_or]
    by_cases h0 : 0 < n
    · obtain ⟨b, off, rfl, _⟩ := hT.2.2 h0
      exact isScalar_num b off n c Z w hn h0 hT hw
    · obtain rfl : n = 0 := by omega
      have hZ : Z = [] := List.eq_nil_of_length_eq_zero hl
      subst hZ
      have f1 : ((strOfNums []).toList == [116, 114, 117, 101]) = false := by rw [strOfNums_eq [] hbd]; decide
      have f2 : ((strOfNums []).toList == [102, 97, 108, 115, 101]) = false := by rw [strOfNums_eq [] hbd]; decide
      have f3 : ((strOfNums []).toList == [110, 117, 108, 108]) = false := by rw [strOfNums_eq [] hbd]; decide
      clear hT hbd hw hl
      generalize strOfNums [] = S at *
      go_enter Try.func31, Try.ntmps31
      go_wp2
      go_ret
      exact ⟨rfl, rfl⟩

theorem zzIsScalar_any (a : Option Addr) (n c : Nat) (Z : List Int) (w : World) (hn : n ≤ maxLen) (hp : PlainAt a n) (hT : TextAt w a n Z) :
    Calls Try.prog 12 #[.slice a n c] w fun e w' => e = .returned (.bool (wordB Z || numL Z)) ∧ w' = w := by
  have HS := hidIt (isScalar_any a n c Z w hn hp hT)
  clear hT hp
  generalize (wordB Z || numL Z) = r at *
  go_enter Try.func12, Try.ntmps12
  go_wp2_with (go_at_call 31; refine HS.out.mono ?_; rintro e w' ⟨rfl, rfl⟩)
  go_ret
  exact ⟨rfl, rfl⟩

/-- Function 3 too long -/
theorem auto_long (a : Option Addr) (n c : Nat) (w : World) (hn : n ≤ maxLen) (h : ¬ n ≤ 1048576) :
    Calls Try.prog 3 #[.slice a n c] w fun e w' => e = .returned (.bool true) ∧ w' = w := by
  have hb := bytes9 a n c hn w
  rw [decide_eq_false h] at hb
  have HB := hidIt hb
  clear hb
  unfold maxLen at hn
  go_enter Try.func3, Try.ntmps3
  go_wp2_with (go_at_call 9; refine HB.out.mono ?_; rintro e w' ⟨rfl, rfl⟩)
  go_ret
  exact ⟨rfl, rfl⟩

set_option maxHeartbeats 1000000 in
/-- Function 3 on nil -/
theorem auto_nil (w : World) :
    Calls Try.prog 3 #[.slice none 0 0] w fun e w' => e = .returned (.bool true) ∧ Below w.heap.size w w' := by
  have hT : ∀ wx, TextAt wx none 0 [] := fun wx => ⟨rfl, fun i => by simp, fun h => absurd h (by omega)⟩
  have HB : Hid (Calls Try.prog 9 #[.slice none 0 0] w fun e w' => e = .returned (.bool true) ∧ w' = w) := bytes9 none 0 0 (Nat.zero_le _) w
  have HW : Hid (Calls Try.prog 10 #[.slice none 0 0] w fun e w' => e = .returned (.bool false) ∧ Drawn w w') := isWord_any none 0 0 [] w (Nat.zero_le _) (hT w)
  have HA : Hid (∀ wx, Calls Try.prog 11 #[.slice none 0 0] wx fun e w' => e = .returned (.bool false) ∧ w' = wx) := fun wx => automaton_any none 0 0 [] wx (Nat.zero_le _) (hT wx)
  have HS : Hid (∀ wx, Calls Try.prog 12 #[.slice none 0 0] wx fun e w' => e = .returned (.bool false) ∧ w' = wx) := fun wx => zzIsScalar_any none 0 0 [] wx (Nat.zero_le _) (.inl ⟨rfl, rfl⟩) (hT wx)
  have hneq := fun wx => run_neq_slice_nil_any (P := Try.prog) wx 22 5 none 0 0 0 0 Try.underlying22
  clear hT
  go_enter Try.func3, Try.ntmps3
  go_wp2_with (first | (go_at_call 9; refine HB.out.mono ?_; intro e w' h; obtain ⟨rfl, h⟩ := h; rw [h]; clear h w') | (go_at_call 10; refine HW.out.mono ?_; rintro e w1 ⟨rfl, d1⟩) | (go_at_call 11; refine (HA.out _).mono ?_; intro e w' h; obtain ⟨rfl, h⟩ := h; rw [h]; clear h w') | (go_at_call 12; refine (HS.out _).mono ?_; intro e w' h; obtain ⟨rfl, h⟩ := h; rw [h]; clear h w'))
  go_ret
  exact ⟨rfl, d1.below _⟩

theorem src_later {ad : Addr} {n B : Nat} {zs : List Int} {w w1 : World} (hzs : zs.length = n) (hb : 0 < n → ad.block < B) (hcell : ∀ j v, (zs.map (Value.int .u8))[j]? = some v → w.cell? (ad.add j) = some v) (hbel : Below B w w1) :
    ∀ j v, (zs.map (Value.int .u8))[j]? = some v → w1.cell? (ad.add j) = some v := by
  intro j v hv
  have hj : j < n := by
    have := (List.getElem?_eq_some_iff.1 hv).1
    simpa [hzs] using this
  rw [hbel.cell (by rw [add_block]; exact hb (by omega))]
  exact hcell j v hv

set_option maxRecDepth 100000 in
set_option maxHeartbeats 1000000 in
theorem auto_main (ad : Addr) (n c : Nat) (zs : List Int) (w : World) (hzs : zs.length = n) (hn : n ≤ 1048576) (h255 : ∀ i : Nat, 0 ≤ zs[i]?.getD 0 ∧ zs[i]?.getD 0 ≤ 255)
    (hb : 0 < n → ad.block < w.heap.size) (hcell : ∀ j v, (zs.map (Value.int .u8))[j]? = some v → w.cell? (ad.add j) = some v) :
    Calls Try.prog 3 #[.slice (some ad) n c] w fun e w' => e = .returned (.bool true) ∧ Below w.heap.size w w' := by
  have hb9 := bytes9 (some ad) n c (by unfold maxLen; omega) w
  rw [decide_eq_true hn] at hb9
  have HB := hidIt hb9
  have HC := hidIt hcell
  have H255 := hidIt h255
  have HZ := hidIt hzs
  have Hb := hidIt hb
  clear hb9 hcell h255 hzs hb
  have hneq := fun wx => run_neq_slice_nil_any (P := Try.prog) wx 22 5 (some ad) n c 0 0 Try.underlying22
  obtain ⟨i0, hi, hz0, hz1, hz2⟩ := info_parts info5
  generalize hBw : w.heap.size = B at *
  go_enter Try.func3, Try.ntmps3
  go_wp2_with (first
    | (go_at_call 9; refine HB.out.mono ?_; intro e w' h; obtain ⟨rfl, h⟩ := h; rw [h]; clear h w')
    | (at_make; refine wpList_make_full _ rfl _ _ 22 rfl B 5 i0 (.int .u8 0) 1 Try.underlying22 hi hz0 hz1 _ _ _ _ n rfl rfl rfl rfl (by rw [hz2]; omega) (by unfold maxLen; omega) (by omega) ?_; intro w1 hown1 hgrow1; rw [hBw] at hown1; have hbel1 : Below B w w1 := (Below.refl _ _).grown hgrow1 (by omega) (fun k h => by cases h); have HS1 := hidIt (src_later HZ.out Hb.out HC.out hbel1); obtain ⟨cur, hcur, hg1⟩ := own_block hown1; obtain ⟨w2, hcopy, hg2, hbel2⟩ := copy_whole ad n c B zs cur HZ.out hcur hg1.out HS1.out hbel1; clear hown1 hgrow1))
  have hT : ∀ wx, Drawn w2 wx → TextAt wx (some ⟨B, 0, none⟩) n zs := by
    intro wx hd
    refine ⟨HZ.out, H255.out, fun _ => ⟨B, 0, rfl, fun i hi => ?_⟩⟩
    rw [hd.cell, Nat.zero_add]
    exact block_cell hg2.out i (by rw [HZ.out]; exact hi)
  have hW := isWord_any (some ⟨B, 0, none⟩) n n zs w2 (by unfold maxLen; omega) (hT w2 (Drawn.refl _))
  have hA := fun wx hd => automaton_any (some ⟨B, 0, none⟩) n n zs wx (by unfold maxLen; omega) (hT wx hd)
  have hS := fun wx hd => zzIsScalar_any (some ⟨B, 0, none⟩) n n zs wx (by unfold maxLen; omega) (.inr ⟨B, 0, rfl⟩) (hT wx hd)
  rw [acc0] at hA
  clear hT hg2 hcopy HB HC HS1 hg1 hcur H255 HZ Hb
  generalize wordB zs = x at *
  generalize numL zs = y at *
  have HW := hidIt hW
  have HA := hidIt hA
  have HS := hidIt hS
  clear hW hA hS hi hz0 hz1 hz2 hneq
  refine HW.out.mono ?_
  rintro e w3 ⟨rfl, d3⟩
  cases x
  · go_wp2_with (first | (go_at_call 11; refine (HA.out _ d3).mono ?_; intro e w' h; obtain ⟨rfl, h⟩ := h; rw [h]; clear h w') | (go_at_call 12; refine (HS.out _ d3).mono ?_; intro e w' h; obtain ⟨rfl, h⟩ := h; rw [h]; clear h w'))
    go_ret
    exact ⟨ret_bool (by simp), hbel2.trans (d3.below _)⟩
  · go_wp2_with (first | (go_at_call 12; refine (HS.out _ d3).mono ?_; intro e w' h; obtain ⟨rfl, h⟩ := h; rw [h]; clear h w'))
    go_ret
    exact ⟨ret_bool (by simp), hbel2.trans (d3.below _)⟩
end Go.Proofs.Qxb6603095a.Wn
