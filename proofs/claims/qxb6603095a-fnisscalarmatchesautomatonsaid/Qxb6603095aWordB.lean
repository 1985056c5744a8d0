import Derived.Test.Qxb6603095aNum
namespace Go.Proofs.Qxb6603095a.Wn
open Go.RowKit
open Go.Proofs.Qxb6603095a.Pl Go.Proofs.Qxb6603095a.Bs
set_option linter.unusedVariables false

/-! ### digitsEnd -/
set_option maxHeartbeats 1000000 in
theorem digitsEnd_any (a : Option Addr) (n c p : Nat) (Z : List Int) (w : World) (hn : n ≤ maxLen) (hp : p ≤ n) (hT : TextAt w a n Z) :
    Calls Try.prog 39 #[.slice a n c, .int .i64 p] w fun e w' => ∃ j : Nat, e = .returned (.int .i64 j) ∧ p ≤ j ∧ j ≤ n ∧ Z.drop j = skipD (Z.drop p) ∧ (p < j → 48 ≤ Z[j - 1]?.getD 0 ∧ Z[j - 1]?.getD 0 ≤ 57) ∧ w' = w := by
  obtain ⟨hl, hbd, hcell⟩ := hT
  unfold maxLen at hn
  have HL := hidIt hl
  have HC := hidIt hcell
  clear hl hbd hcell
  go_enter Try.func39, Try.ntmps39
  go_wp2
  go_loop [1] (fun i => ∃ k : Nat, p ≤ k ∧ k ≤ n ∧ i = .int .i64 k ∧ Hid (skipD (Z.drop k) = skipD (Z.drop p) ∧ (p < k → 48 ≤ Z[k - 1]?.getD 0 ∧ Z[k - 1]?.getD 0 ≤ 57))) (fun i => n - (intOf i).toNat)
  case atStart => exact ⟨p, Nat.le_refl _, hp, rfl, rfl, fun h => absurd h (by omega)⟩
  case round =>
    obtain ⟨k, hpk, hk, rfl, HI⟩ := hrel
    by_cases hlt : k < n
    · obtain ⟨b, off, rfl, hc⟩ := HC.out (by omega)
      have g := hc k hlt
      have hdr := drop_cons_getD Z k (by rw [HL.out]; exact hlt)
      have HX : Hid (∀ x, Z[k]?.getD 0 = x → Z.drop k = x :: Z.drop (k + 1)) := by intro x hx; rw [hdr, hx]
      have HY : Hid (∀ x, Z[k]?.getD 0 = x → Z[k + 1 - 1]?.getD 0 = x) := by intro x hx; simpa using hx
      clear hdr hc HC
      generalize hx : Z[k]?.getD 0 = x at *
      have HXx := hidIt (HX.out x rfl)
      have HYx := hidIt (HY.out x rfl)
      clear HX HY hx
      by_cases h1 : 48 ≤ x
      · by_cases h2 : x ≤ 57
        · have HI' : Hid (skipD (Z.drop (k + 1)) = skipD (Z.drop p) ∧ (p < k + 1 → 48 ≤ Z[k + 1 - 1]?.getD 0 ∧ Z[k + 1 - 1]?.getD 0 ≤ 57)) := by
            refine ⟨?_, fun _ => by rw [HYx.out]; exact ⟨h1, h2⟩⟩
            rw [← HI.out.1, HXx.out]
            simp [skipD, h1, h2]
          clear HI HXx HYx
          go_wp2
          go_round
          case rel => exact ⟨k + 1, by omega, by omega, by go_num, HI'⟩
          case measure => simp [intOf]; omega
        · have HF : Hid (Z.drop k = skipD (Z.drop p)) := by
            show _ = _
            rw [← HI.out.1, HXx.out]
            simp [skipD, h2]
          clear HXx HYx
          go_wp2
          go_ret
          exact ⟨k, rfl, hpk, hk, HF.out, HI.out.2, rfl⟩
      · have HF : Hid (Z.drop k = skipD (Z.drop p)) := by
          show _ = _
          rw [← HI.out.1, HXx.out]
          simp [skipD, h1]
        clear HXx HYx
        go_wp2
        go_ret
        exact ⟨k, rfl, hpk, hk, HF.out, HI.out.2, rfl⟩
    · have HF : Hid (Z.drop k = skipD (Z.drop p)) := by
        show _ = _
        rw [← HI.out.1, List.drop_eq_nil_of_le (by rw [HL.out]; omega)]; rfl
      go_wp2
      go_ret
      exact ⟨k, rfl, hpk, hk, HF.out, HI.out.2, rfl⟩

/-! ### zzSameText, zzIsWord -/
def numsOf (s : ByteArray) : List Int := s.data.toList.map fun c => (c.toNat : Int)
theorem numsOf_length (s : ByteArray) : (numsOf s).length = s.size := by simp [numsOf]
theorem numsOf_get (s : ByteArray) (k : Nat) (hk : k < s.size) : (numsOf s)[k]?.getD 0 = (s[k].toNat : Int) := by
  unfold numsOf
  rw [List.getElem?_map, List.getElem?_eq_getElem (by simpa using hk)]
  rfl
theorem eq_of_places (us L : List Int) (hl : us.length = L.length) (h : ∀ j, j < us.length → us[j]?.getD 0 = L[j]?.getD 0) : us = L := by
  apply List.ext_getElem hl
  intro i h1 h2
  have := h i h1
  rw [List.getElem?_eq_getElem h1, List.getElem?_eq_getElem h2] at this
  simpa using this

set_option maxHeartbeats 1000000 in
theorem sameText_any (a : Option Addr) (n c : Nat) (Z : List Int) (s : ByteArray) (w : World) (hn : n ≤ maxLen) (hs : s.size ≤ maxLen) (hT : TextAt w a n Z) :
    Calls Try.prog 29 #[.slice a n c, .string s] w fun e w' => e = .returned (.bool (decide (Z = numsOf s))) ∧ Drawn w w' := by
  obtain ⟨hl, hbd, hcell⟩ := hT
  unfold maxLen at hn hs
  have HL := hidIt hl
  have HC := hidIt hcell
  clear hl hbd hcell
  by_cases hne : n = s.size
  · subst hne
    go_enter Try.func29, Try.ntmps29
    go_wp2
    go_loopw [5] (fun i wr => ∃ k : Nat, k ≤ s.size ∧ i = .int .i64 k ∧ Hid (∀ j, j < k → Z[j]?.getD 0 = (numsOf s)[j]?.getD 0) ∧ Drawn w wr) (fun i _ => s.size - (intOf i).toNat)
    case atStart => exact ⟨0, Nat.zero_le _, rfl, fun j hj => absurd hj (by omega), Drawn.refl _⟩
    case round =>
      obtain ⟨k, hk, rfl, HI, hdr⟩ := hrel
      by_cases hlt : k < s.size
      · obtain ⟨b, off, rfl, hc⟩ := HC.out (by omega)
        have g : wr.cell? ⟨b, off + k, none⟩ = some (.int .u8 (Z[k]?.getD 0)) := by rw [hdr.cell]; exact hc k hlt
        have hlt' : (k : Int) < (s.size : Int) := by omega
        clear hc HC
        by_cases e : Z[k]?.getD 0 = (s[k].toNat : Int)
        · have HI' : Hid (∀ j, j < k + 1 → Z[j]?.getD 0 = (numsOf s)[j]?.getD 0) := by
            intro j hj
            by_cases ej : j = k
            · subst ej; rw [e, numsOf_get s j hlt]
            · exact HI.out j (by omega)
          have e' : (Z[k]?.getD 0 != (s[k].toNat : Int)) = false := by simp [e]
          clear e HI
          generalize Z[k]?.getD 0 = x at *
          go_wp2
          go_quiet (fail)
          go_wp2
          go_roundw
          case rel => exact ⟨k + 1, by omega, by go_num, HI', hdr.more _⟩
          case measure => simp [intOf]; omega
        · have HF : Hid (decide (Z = numsOf s) = false) := by
            show _ = _
            rw [decide_eq_false_iff_not]
            intro h; apply e; rw [h, numsOf_get s k hlt]
          have e' : (Z[k]?.getD 0 != (s[k].toNat : Int)) = true := by simp [e]
          clear e HI
          generalize Z[k]?.getD 0 = x at *
          go_wp2
          go_quiet (fail)
          go_wp2
          go_ret
          exact ⟨ret_bool HF.out.symm, hdr.more _⟩
      · have HF : Hid (decide (Z = numsOf s) = true) := decide_eq_true (eq_of_places Z _ (by rw [numsOf_length, HL.out]) (fun j hj => HI.out j (by rw [HL.out] at hj; omega)))
        clear HI HC
        go_wp2
        go_ret
        exact ⟨ret_bool HF.out.symm, hdr⟩
  · have HF : Hid (decide (Z = numsOf s) = false) := by
      show _ = _
      rw [decide_eq_false_iff_not]
      intro h; apply hne; rw [← HL.out, h, numsOf_length]
    have hne' : ((n : Int) != (s.size : Int)) = true := by rw [bne_iff_ne]; omega
    go_enter Try.func29, Try.ntmps29
    go_wp2
    go_ret
    exact ⟨ret_bool HF.out.symm, Drawn.refl _⟩

def wordB (Z : List Int) : Bool := decide (Z = [116, 114, 117, 101]) || decide (Z = [102, 97, 108, 115, 101]) || decide (Z = [110, 117, 108, 108])

theorem isWord_any (a : Option Addr) (n c : Nat) (Z : List Int) (w : World) (hn : n ≤ maxLen) (hT : TextAt w a n Z) :
    Calls Try.prog 10 #[.slice a n c] w fun e w' => e = .returned (.bool (wordB Z)) ∧ Drawn w w' := by
  have h1 : ∀ wx, Drawn w wx → Calls Try.prog 29 #[.slice a n c, .string { data := #[116, 114, 117, 101] }] wx fun e w' => e = .returned (.bool (decide (Z = [116, 114, 117, 101]))) ∧ Drawn wx w' := fun wx hd => sameText_any a n c Z _ wx hn (by decide) (hT.drawn hd)
  have h2 : ∀ wx, Drawn w wx → Calls Try.prog 29 #[.slice a n c, .string { data := #[102, 97, 108, 115, 101] }] wx fun e w' => e = .returned (.bool (decide (Z = [102, 97, 108, 115, 101]))) ∧ Drawn wx w' := fun wx hd => sameText_any a n c Z _ wx hn (by decide) (hT.drawn hd)
  have h3 : ∀ wx, Drawn w wx → Calls Try.prog 29 #[.slice a n c, .string { data := #[110, 117, 108, 108] }] wx fun e w' => e = .returned (.bool (decide (Z = [110, 117, 108, 108]))) ∧ Drawn wx w' := fun wx hd => sameText_any a n c Z _ wx hn (by decide) (hT.drawn hd)
  have H1 := hidIt h1
  have H2 := hidIt h2
  have H3 := hidIt h3
  unfold wordB
  clear h1 h2 h3 hT
  unfold maxLen at hn
  generalize decide (Z = [116, 114, 117, 101]) = x1 at *
  generalize decide (Z = [102, 97, 108, 115, 101]) = x2 at *
  generalize decide (Z = [110, 117, 108, 108]) = x3 at *
  cases x1
  · cases x2
    · go_enter Try.func10, Try.ntmps10
      go_wp2_with fail
      refine (H1.out _ (Drawn.refl _)).mono ?_
      rintro e w1 ⟨rfl, d1⟩
      go_wp2_with fail
      refine (H2.out _ d1).mono ?_
      rintro e w2 ⟨rfl, d2⟩
      go_wp2_with fail
      refine (H3.out _ (d1.trans d2)).mono ?_
      rintro e w3 ⟨rfl, d3⟩
      go_wp2
      go_ret
      exact ⟨ret_bool (by simp), d1.trans (d2.trans d3)⟩
    · go_enter Try.func10, Try.ntmps10
      go_wp2_with fail
      refine (H1.out _ (Drawn.refl _)).mono ?_
      rintro e w1 ⟨rfl, d1⟩
      go_wp2_with fail
      refine (H2.out _ d1).mono ?_
      rintro e w2 ⟨rfl, d2⟩
      go_wp2
      go_ret
      exact ⟨ret_bool (by simp), d1.trans d2⟩
  · go_enter Try.func10, Try.ntmps10
    go_wp2_with fail
    refine (H1.out _ (Drawn.refl _)).mono ?_
    rintro e w1 ⟨rfl, d1⟩
    go_wp2
    go_ret
    exact ⟨ret_bool (by simp), d1⟩
end Go.Proofs.Qxb6603095a.Wn
