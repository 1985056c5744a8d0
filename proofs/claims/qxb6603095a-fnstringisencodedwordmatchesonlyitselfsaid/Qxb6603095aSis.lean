import Derived.Test.Qxb6603095aLeaf
import Derived.Laws.BitsAllLaws
import Derived.Deep.QuietTactic
import Derived.BigQuiet
namespace Go.Proofs.Qxb6603095a.Wk
open Go.RowKit
open Go.Proofs.Qxb6603095a.Pl

theorem i32_or16 (r d : Int) (h1 : 0 ≤ r) (h2 : r ≤ 4095) (h3 : 0 ≤ d) (h4 : d < 16) : bits .or .i32 (r * 16) d = r * 16 + d := by
  obtain ⟨A, rfl⟩ := Int.eq_ofNat_of_zero_le h1
  obtain ⟨B, rfl⟩ := Int.eq_ofNat_of_zero_le h3
  have e1 : ((A : Int) * 16) = ((A * 16 : Nat) : Int) := by omega
  rw [e1]
  show IntKind.i32.wrap ((BitVec.ofInt 32 ((A * 16 : Nat) : Int) ||| BitVec.ofInt 32 (B : Int)).toNat : Int) = _
  rw [BitVec.toNat_or, ofInt_u32 _ (by omega), ofInt_u32 _ (by omega), nat_join 4 (A * 16) B (by omega) (by omega)]
  simp [IntKind.wrap, IntKind.bits, IntKind.signed]
  omega

theorem hex_hi (x : Int) (h : 57 < x) (hv : 0 ≤ hexVal x) : (bits BinOp.or IntKind.u8 x 32 - 97) % 256 + 10 = hexVal x := by
  have : x = 65 ∨ x = 66 ∨ x = 67 ∨ x = 68 ∨ x = 69 ∨ x = 70 ∨ x = 97 ∨ x = 98 ∨ x = 99 ∨ x = 100 ∨ x = 101 ∨ x = 102 := by
    unfold hexVal at hv
    split at hv
    · omega
    · split at hv
      · omega
      · split at hv <;> omega
  rcases this with rfl | rfl | rfl | rfl | rfl | rfl | rfl | rfl | rfl | rfl | rfl | rfl <;> decide

theorem hex_lo (x : Int) (h : x ≤ 57) (hv : 0 ≤ hexVal x) : (x - 48) % 256 = hexVal x := by
  unfold hexVal at *
  split at hv
  · rename_i h1; rw [if_pos h1]; omega
  · split at hv
    · omega
    · split at hv <;> omega

set_option maxHeartbeats 400000 in
theorem hexRune_any (b off n c : Nat) (X : List Int) (w : World)
    (hn : 4 ≤ n) (hnc : n ≤ c) (hc : c ≤ maxLen) (hv : ∀ j, j < 4 → 0 ≤ hexVal (X[j]?.getD 0))
    (hcell : ∀ i, i < 4 → w.cell? ⟨b, off + i, none⟩ = some (.int .u8 (X[i]?.getD 0))) :
    Calls Try.prog 36 #[.slice (some ⟨b, off, none⟩) n c] w fun e w' => e = .returned (.int .i32 (hexTo X 4)) ∧ w' = w := by
  unfold maxLen at hc
  go_enter Try.func36, Try.ntmps36
  go_wp2
  go_loop [3, 10] (fun r i => ∃ k : Nat, k ≤ 4 ∧ i = .int .i64 k ∧ r = .int .i32 (hexTo X k)) (fun _ i => 4 - (intOf i).toNat)
  case atStart => exact ⟨0, by omega, rfl, rfl⟩
  case round =>
    obtain ⟨k, hk, rfl, rfl⟩ := hrel
    by_cases hlt : k < 4
    · have g := hcell k hlt
      have hx := hv k hlt
      have hb := hexTo_bd X k fun j hj => hv j (by omega)
      have hb2 : hexTo X k ≤ 4095 := by
        have : (16 : Int) ^ k ≤ 16 ^ 3 := by
          match k, hlt with
          | 0, _ => decide
          | 1, _ => decide
          | 2, _ => decide
          | 3, _ => decide
        omega
      obtain ⟨hb1, _⟩ := hb
      have HS : Hid (hexTo X (k + 1) = hexTo X k * 16 + hexVal (X[k]?.getD 0)) := rfl
      clear hcell hv
      generalize X[k]?.getD 0 = x at *
      generalize hexTo X k = r at *
      have hl := hexVal_le x
      go_wp2
      all_goals
        go_round
        case rel => exact ⟨k + 1, by omega, by go_num, by rw [HS.out]; first | rw [hex_hi x ‹_› hx, i32_or16 r _ hb1 hb2 hx (by omega)] | rw [hex_lo x ‹_› hx, i32_or16 r _ hb1 hb2 hx (by omega)]⟩
        case measure => simp [intOf]; omega
    · obtain rfl : k = 4 := by omega
      go_wp2
      go_ret
      exact ⟨rfl, rfl⟩

/-- a string's bytes as numbers -/
def numsOf (s : ByteArray) : List Int := s.data.toList.map fun c => (c.toNat : Int)
theorem numsOf_length (s : ByteArray) : (numsOf s).length = s.size := by simp [numsOf]
theorem numsOf_get (s : ByteArray) (k : Nat) (hk : k < s.size) : (numsOf s)[k]?.getD 0 = (s[k].toNat : Int) := by
  unfold numsOf
  rw [List.getElem?_map, List.getElem?_eq_getElem (by simpa using hk)]
  rfl
theorem numsOf_drop (s : ByteArray) (k : Nat) (hk : k < s.size) : (numsOf s).drop k = (s[k].toNat : Int) :: (numsOf s).drop (k + 1) := by
  rw [drop_cons_getD _ _ (by rw [numsOf_length]; exact hk), numsOf_get s k hk]
theorem letter_at (s : ByteArray) (h : lettersB s.data.toList = true) (k : Nat) (hk : k < s.size) : isLetterB (s[k].toNat : Int) = true := by
  cases hb : isLetterB (s[k].toNat : Int) with
  | true => rfl
  | false => rw [lettersB_bad s k hk hb] at h; cases h

def Drawn (w wr : World) : Prop := ∃ m, wr = w.drewN m
theorem Drawn.refl (w : World) : Drawn w w := ⟨0, rfl⟩
theorem Drawn.more {w wr : World} (h : Drawn w wr) (n : Nat) : Drawn w (wr.drewN n) := by
  obtain ⟨m, rfl⟩ := h; exact ⟨m + n, by simp⟩
theorem Drawn.cell {w wr : World} (h : Drawn w wr) (a : Addr) : wr.cell? a = w.cell? a := by
  obtain ⟨m, rfl⟩ := h; simp

set_option maxHeartbeats 1000000 in
theorem stringIs_any (b off n c : Nat) (Z : List Int) (s : ByteArray) (us : List Int) (f0 : Nat) (w : World)
    (hn : Z.length + 2 = n) (hnc : n ≤ c) (hc : c ≤ maxLen) (hs : s.size ≤ maxLen) (hL : lettersB s.data.toList = true)
    (hdec : dec f0 Z = some us)
    (hcell : ∀ i, i < Z.length → w.cell? ⟨b, off + 1 + i, none⟩ = some (.int .u8 (Z[i]?.getD 0))) :
    Calls Try.prog 26 #[.slice (some ⟨b, off, none⟩) n c, .string s] w fun e w' => e = .returned (.bool (decide (us = numsOf s))) ∧ Drawn w w' := by
  unfold maxLen at hs hc
  have h2 : 2 ≤ n := by omega
  have HD : Hid (dec f0 Z = some us) := hdec
  have HL : Hid (lettersB s.data.toList = true) := hL
  have HC : Hid (∀ i, i < Z.length → w.cell? ⟨b, off + 1 + i, none⟩ = some (.int .u8 (Z[i]?.getD 0))) := hcell
  clear hdec hL hcell
  go_enter Try.func26, Try.ntmps26
  go_wp2
  go_loopw [5, 14] (fun t i wr => ∃ k p r m f : Nat, ∃ us' : List Int, k ≤ s.size ∧ i = .int .i64 k ∧ p + r ≤ Z.length ∧ Z.length ≤ p + r ∧ r + 1 ≤ m ∧ m ≤ c ∧ t = .slice (some ⟨b, off + 1 + p, none⟩) r m ∧
      Hid (dec f (Z.drop p) = some us' ∧ (us = numsOf s ↔ us' = (numsOf s).drop k)) ∧ Drawn w wr) (fun _ i _ => s.size - (intOf i).toNat)
  case atStart => exact ⟨0, 0, n - 1 - 1, c - 1, f0, us, Nat.zero_le _, rfl, by omega, by omega, by omega, by omega, rfl, ⟨HD.out, Iff.rfl⟩, Drawn.refl _⟩
  case round =>
    obtain ⟨k, p, r, m, f, us', hk, rfl, hp1, hp2, hrm, hmc, rfl, HI, hdr⟩ := hrel
    by_cases hlt : k < s.size
    · have hs1 : (0 : Int) ≤ (s[k].toNat : Int) := by omega
      have hs2 : (s[k].toNat : Int) ≤ 255 := by have := s[k].toNat_lt; omega
      by_cases hr : 0 < r
      · have g0 : wr.cell? ⟨b, off + 1 + p, none⟩ = some (.int .u8 (Z[p]?.getD 0)) := by rw [hdr.cell]; exact HC.out p (by omega)
        obtain ⟨u, us2, hus, hm⟩ := meet f Z p us' HI.out.1 (by omega)
        have hr' : (0 : Int) < (r : Int) := by omega
        rcases hm with ⟨hx, hu, f', hd⟩ | ⟨hx, hr6, hy, hv, hu, f', hd⟩ | ⟨hx, hr2, hy, hu⟩
        · -- a byte that stands for itself
          have HI2 : Hid (us = numsOf s ↔ (u = (s[k].toNat : Int) ∧ us2 = (numsOf s).drop (k + 1))) := by
            show _ ↔ _
            rw [HI.out.2, hus, numsOf_drop s k hlt, List.cons.injEq]
          have HF' : Hid (dec f' (Z.drop (p + 1)) = some us2) := hd
          have HU : Hid (u = Z[p]?.getD 0) := hu
          clear HI HD HL hus hd hu
          generalize Z[p]?.getD 0 = x at *
          by_cases e : x = (s[k].toNat : Int)
          · have e' : (x != (s[k].toNat : Int)) = false := by simp [e]
            have HR : Hid (us = numsOf s ↔ us2 = (numsOf s).drop (k + 1)) := by
              show _ ↔ _
              rw [HI2.out, HU.out]; exact ⟨fun h => h.2, fun h => ⟨e, h⟩⟩
            clear e HU HI2
            go_wp2
            go_quiet (fail)
            go_wp2
            go_roundw
            case rel => exact ⟨k + 1, p + 1, r - 1, m - 1, f', us2, by omega, by go_num, by omega, by omega, by omega, by omega, rfl, ⟨HF'.out, HR.out⟩, hdr.more _⟩
            case measure => simp [intOf]; omega
          · have e' : (x != (s[k].toNat : Int)) = true := by simp [e]
            have HR : Hid (decide (us = numsOf s) = false) := by
              show _ = _
              rw [decide_eq_false_iff_not, HI2.out, HU.out]; exact fun h => e h.1
            clear e HU HI2
            go_wp2
            go_quiet (fail)
            go_wp2
            go_ret
            exact ⟨ret_bool HR.out.symm, hdr.more _⟩
        · -- a u-escape
          have HI2 : Hid (us = numsOf s ↔ (u = (s[k].toNat : Int) ∧ us2 = (numsOf s).drop (k + 1))) := by
            show _ ↔ _
            rw [HI.out.2, hus, numsOf_drop s k hlt, List.cons.injEq]
          have HF' : Hid (dec f' (Z.drop (p + 6)) = some us2) := hd
          have g1 : wr.cell? ⟨b, off + 1 + p + 1, none⟩ = some (.int .u8 (Z[p + 1]?.getD 0)) := by rw [hdr.cell]; exact HC.out (p + 1) (by omega)
          have hcon : ∀ nq, Calls Try.prog 36 #[.slice (some ⟨b, off + 1 + p + 2, none⟩) 4 (m - 2)] (wr.drewN nq) fun e w' => e = .returned (.int .i32 u) ∧ w' = wr.drewN nq := by
            intro nq
            rw [hu]
            exact hexRune_any b (off + 1 + p + 2) 4 (m - 2) (Z.drop (p + 2)) (wr.drewN nq) (by omega) (by omega) (by unfold maxLen; omega) hv
              (fun i hi => by rw [World.cell?_drewN, hdr.cell, List.getElem?_drop, show off + 1 + p + 2 + i = off + 1 + (p + 2 + i) from by omega]; exact HC.out (p + 2 + i) (by omega))
          rw [hx] at g0
          rw [hy] at g1
          have HN : Hid (∀ nq, Calls Try.prog 36 #[.slice (some ⟨b, off + 1 + p + 2, none⟩) 4 (m - 2)] (wr.drewN nq) fun e w' => e = .returned (.int .i32 u) ∧ w' = wr.drewN nq) := hcon
          clear HI HD HL hus hd hu hcon hv hx hy HC
          have hr6' : (6 : Int) ≤ (r : Int) := by omega
          have hm6 : (6 : Int) ≤ (m : Int) := by omega
          have hm2 : ¬ m = 2 := by omega
          by_cases e : u = (s[k].toNat : Int)
          · have e' : (u != (s[k].toNat : Int)) = false := by simp [e]
            have HR : Hid (us = numsOf s ↔ us2 = (numsOf s).drop (k + 1)) := by
              show _ ↔ _
              rw [HI2.out]; exact ⟨fun h => h.2, fun h => ⟨e, h⟩⟩
            clear e HI2
            go_wp2
            go_quiet ((go_at_call 36; exact Calls.quiet_of_same (HN.out _)))
            go_wp2
            go_roundw
            case rel => exact ⟨k + 1, p + 6, r - 6, m - 6, f', us2, by omega, by go_num, by omega, by omega, by omega, by omega, rfl, ⟨HF'.out, HR.out⟩, hdr.more _⟩
            case measure => simp [intOf]; omega
          · have e' : (u != (s[k].toNat : Int)) = true := by simp [e]
            have HR : Hid (decide (us = numsOf s) = false) := by
              show _ = _
              rw [decide_eq_false_iff_not, HI2.out]; exact fun h => e h.1
            clear e HI2
            go_wp2
            go_quiet ((go_at_call 36; exact Calls.quiet_of_same (HN.out _)))
            go_wp2
            go_ret
            exact ⟨ret_bool HR.out.symm, hdr.more _⟩
        · -- a short escape: it writes no letter
          have HR : Hid (decide (us = numsOf s) = false) := by
            show _ = _
            rw [decide_eq_false_iff_not, HI.out.2, hus, numsOf_drop s k hlt, List.cons.injEq]
            intro h
            rw [h.1, letter_at s HL.out k hlt] at hu
            cases hu
          have g1 : wr.cell? ⟨b, off + 1 + p + 1, none⟩ = some (.int .u8 (Z[p + 1]?.getD 0)) := by rw [hdr.cell]; exact HC.out (p + 1) (by omega)
          rw [hx] at g0
          clear HI HD HL hus hu HC hx
          generalize Z[p + 1]?.getD 0 = y at *
          by_cases h6 : 6 ≤ r
          · have hr6' : (6 : Int) ≤ (r : Int) := by omega
            go_wp2
            go_ret
            exact ⟨ret_bool HR.out.symm, hdr⟩
          · go_wp2
            go_ret
            exact ⟨ret_bool HR.out.symm, hdr⟩
      · have hr0 : r = 0 := by omega
        have HF : Hid (decide (us = numsOf s) = false) := by
          show _ = _
          rw [decide_eq_false_iff_not, HI.out.2]
          have := HI.out.1
          rw [dec_nil _ _ (by simp; omega)] at this
          rw [numsOf_drop s k hlt]
          obtain rfl : us' = [] := by simpa using this.symm
          simp
        clear HI HC HD HL
        go_wp2
        go_ret
        exact ⟨ret_bool HF.out.symm, hdr⟩
    · have HF : Hid (decide (us = numsOf s) = ((r : Int) == 0)) := by
        show _ = _
        have hd : (numsOf s).drop k = [] := List.drop_eq_nil_of_le (by rw [numsOf_length]; omega)
        have h1 := HI.out.1
        have h2 := HI.out.2
        rw [hd] at h2
        by_cases hr : 0 < r
        · obtain ⟨u, us2, hus, _⟩ := meet f Z p us' h1 (by omega)
          rw [decide_eq_false (by rw [h2, hus]; simp)]
          symm; rw [beq_eq_false_iff_ne]; omega
        · have : us' = [] := by
            rw [dec_nil _ _ (by simp; omega)] at h1
            simpa using h1.symm
          rw [decide_eq_true (h2.2 this)]
          symm; rw [beq_iff_eq]; omega
      clear HI HC HD HL
      go_wp2
      go_ret
      exact ⟨ret_bool HF.out.symm, hdr⟩
end Go.Proofs.Qxb6603095a.Wk
