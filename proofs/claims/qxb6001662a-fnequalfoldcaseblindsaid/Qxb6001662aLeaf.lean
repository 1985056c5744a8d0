import Derived.Test.Qxb6001662aBase
namespace Go.Proofs.Qxb6001662a.Wl
open Go.RowKit
open Go.Proofs.Qxb6001662a.Pl Go.Proofs.Qxb6001662a.Bs
set_option linter.unusedVariables false

theorem isLower_any (x : Int) (hx : 0 ≤ x ∧ x ≤ 255) (w : World) : Calls Try.prog 22 #[.int .u8 x] w fun e w' => e = .returned (.bool (isLowI x)) ∧ w' = w := by
  obtain ⟨h0, h1⟩ := hx
  unfold isLowI
  by_cases a : 97 ≤ x <;> by_cases b : x ≤ 122
  all_goals
    go_enter Try.func22, Try.ntmps22
    go_wp2
    go_ret
    exact ⟨by simp [a, b], rfl⟩
theorem isUpper_any (x : Int) (hx : 0 ≤ x ∧ x ≤ 255) (w : World) : Calls Try.prog 24 #[.int .u8 x] w fun e w' => e = .returned (.bool (isUpI x)) ∧ w' = w := by
  obtain ⟨h0, h1⟩ := hx
  unfold isUpI
  by_cases a : 65 ≤ x <;> by_cases b : x ≤ 90
  all_goals
    go_enter Try.func24, Try.ntmps24
    go_wp2
    go_ret
    exact ⟨by simp [a, b], rfl⟩
theorem lower_any (x : Int) (hx : 0 ≤ x ∧ x ≤ 255) (w : World) : Calls Try.prog 23 #[.int .u8 x] w fun e w' => e = .returned (.int .u8 (lowI x)) ∧ w' = w := by
  have H := hidIt (isUpper_any x hx w)
  obtain ⟨h0, h1⟩ := hx
  by_cases a : 65 ≤ x ∧ x ≤ 90
  · have e : isUpI x = true := by simp [isUpI, a]
    have e2 : lowI x = x + 32 := by simp [lowI, a]
    rw [e] at H
    rw [e2]
    obtain ⟨a1, a2⟩ := a
    go_enter Try.func23, Try.ntmps23
    go_wp2_with (go_at_call 24; refine H.out.mono ?_; intro e w' h; obtain ⟨rfl, h⟩ := h; rw [h]; clear h w')
    go_ret
    exact ⟨rfl, rfl⟩
  · have e : isUpI x = false := by
      rw [isUpI, Bool.and_eq_false_iff, decide_eq_false_iff_not, decide_eq_false_iff_not]; omega
    have e2 : lowI x = x := by simp [lowI, a]
    rw [e] at H
    rw [e2]
    clear a e e2
    go_enter Try.func23, Try.ntmps23
    go_wp2_with (go_at_call 24; refine H.out.mono ?_; intro e w' h; obtain ⟨rfl, h⟩ := h; rw [h]; clear h w')
    go_ret
    exact ⟨rfl, rfl⟩
theorem flip_any (x : Int) (hx : 0 ≤ x ∧ x ≤ 255) (w : World) : Calls Try.prog 21 #[.int .u8 x] w fun e w' => e = .returned (.int .u8 (flipI x)) ∧ w' = w := by
  have H := hidIt (isUpper_any x hx w)
  have H2 := hidIt (isLower_any x hx w)
  obtain ⟨h0, h1⟩ := hx
  by_cases a : 65 ≤ x ∧ x ≤ 90
  · have e : isUpI x = true := by simp [isUpI, a]
    have e2 : flipI x = x + 32 := by simp [flipI, a]
    rw [e] at H
    rw [e2]
    obtain ⟨a1, a2⟩ := a
    go_enter Try.func21, Try.ntmps21
    go_wp2_with (go_at_call 24; refine H.out.mono ?_; intro e w' h; obtain ⟨rfl, h⟩ := h; rw [h]; clear h w')
    go_ret
    exact ⟨rfl, rfl⟩
  · have e : isUpI x = false := by
      rw [isUpI, Bool.and_eq_false_iff, decide_eq_false_iff_not, decide_eq_false_iff_not]; omega
    rw [e] at H
    by_cases b : 97 ≤ x ∧ x ≤ 122
    · have e3 : isLowI x = true := by simp [isLowI, b]
      have e2 : flipI x = x - 32 := by unfold flipI; rw [if_neg a, if_pos b]
      rw [e3] at H2
      rw [e2]
      obtain ⟨b1, b2⟩ := b
      clear a e e2 e3
      go_enter Try.func21, Try.ntmps21
      go_wp2_with (first | (go_at_call 24; refine H.out.mono ?_; intro e w' h; obtain ⟨rfl, h⟩ := h; rw [h]; clear h w') | (go_at_call 22; refine H2.out.mono ?_; intro e w' h; obtain ⟨rfl, h⟩ := h; rw [h]; clear h w'))
      go_ret
      exact ⟨rfl, rfl⟩
    · have e3 : isLowI x = false := by
        rw [isLowI, Bool.and_eq_false_iff, decide_eq_false_iff_not, decide_eq_false_iff_not]; omega
      have e2 : flipI x = x := by unfold flipI; rw [if_neg a, if_neg b]
      rw [e3] at H2
      rw [e2]
      clear a b e e2 e3
      go_enter Try.func21, Try.ntmps21
      go_wp2_with (first | (go_at_call 24; refine H.out.mono ?_; intro e w' h; obtain ⟨rfl, h⟩ := h; rw [h]; clear h w') | (go_at_call 22; refine H2.out.mono ?_; intro e w' h; obtain ⟨rfl, h⟩ := h; rw [h]; clear h w'))
      go_ret
      exact ⟨rfl, rfl⟩

set_option maxHeartbeats 1000000 in
theorem zzBytes18_any (a : Option Addr) (n c : Nat) (s : ByteArray) (w : World) (hn : n ≤ maxLen) (hs : s.size ≤ maxLen) : Calls Try.prog 18 #[.slice a n c, .string s] w fun e w' => AnyBool e ∧ w' = w := by
  unfold maxLen at hn hs
  by_cases h1 : n ≤ 1048576 <;> by_cases h2 : s.size ≤ 1048576 <;> by_cases h3 : n + s.size ≤ 1048576
  all_goals first
    | (exfalso; omega)
    | (go_enter Try.func18, Try.ntmps18
       go_wp2
       go_ret
       exact ⟨⟨_, rfl⟩, rfl⟩)

set_option maxHeartbeats 2000000 in
theorem equalFold_any (B : Nat) (a : Option Addr) (n c : Nat) (Z : List Int) (s : ByteArray) (w : World) (hn : n ≤ 1048576) (hs : s.size ≤ maxLen) (hns : n ≤ s.size) (hT : TextIn w B a n Z) :
    Calls Try.prog 56 #[.slice a n c, .string s] w fun e w' => e = .returned (.bool (eqf Z (numsOf s))) ∧ w' = w := by
  have HT := hidIt hT
  have hZl := hT.1
  have HZl := hidIt hZl
  clear hT hZl
  unfold maxLen at hs
  go_enter Try.func56, Try.ntmps56
  go_wp2
  go_loop [5, 6, 9] (fun _ _ i => ∃ k : Nat, k ≤ n ∧ i = .int .i64 k ∧ Hid (∀ j, j < k → lowI (Z[j]?.getD 0) = (numsOf s)[j]?.getD 0)) (fun _ _ i => n - (intOf i).toNat)
  case atStart => exact ⟨0, Nat.zero_le _, rfl, fun j hj => absurd hj (by omega)⟩
  case round =>
    obtain ⟨k, hk, rfl, HI⟩ := hrel
    by_cases hlt : k < n
    · obtain ⟨b, off, rfl, _, hc⟩ := HT.out.2.2 (by omega)
      have g := hc k hlt
      obtain ⟨z0, z1⟩ := HT.out.2.1 k
      have hks : k < s.size := by omega
      have hs1 : (0 : Int) ≤ (s[k].toNat : Int) := by omega
      have hs2 : (s[k].toNat : Int) ≤ 255 := by have := s[k].toNat_lt; omega
      have hlt' : (k : Int) < (n : Int) := by omega
      have hks' : (k : Int) < (s.size : Int) := by omega
      by_cases e : lowI (Z[k]?.getD 0) = (s[k].toNat : Int)
      · have HI' : Hid (∀ j, j < k + 1 → lowI (Z[j]?.getD 0) = (numsOf s)[j]?.getD 0) := by
          intro j hj
          by_cases ej : j = k
          · subst ej; rw [e, numsOf_get s j hks]
          · exact HI.out j (by omega)
        clear HI hc
        generalize Z[k]?.getD 0 = x at *
        by_cases h1 : 65 ≤ x
        · by_cases h2 : x ≤ 90
          · have e1 : lowI x = x + 32 := by simp [lowI, h1, h2]
            rw [e1] at e
            have e' : ((x + 32) != (s[k].toNat : Int)) = false := by rw [e]; simp
            clear e1 e
            go_wp2
            go_round
            case rel => exact ⟨k + 1, by omega, by go_num, HI'⟩
            case measure => simp [intOf]; omega
          · have e1 : lowI x = x := by simp [lowI, h2]
            rw [e1] at e
            have e' : (x != (s[k].toNat : Int)) = false := by rw [e]; simp
            clear e1 e
            go_wp2
            go_round
            case rel => exact ⟨k + 1, by omega, by go_num, HI'⟩
            case measure => simp [intOf]; omega
        · have e1 : lowI x = x := by simp [lowI, h1]
          rw [e1] at e
          have e' : (x != (s[k].toNat : Int)) = false := by rw [e]; simp
          clear e1 e
          go_wp2
          go_round
          case rel => exact ⟨k + 1, by omega, by go_num, HI'⟩
          case measure => simp [intOf]; omega
      · have HF : Hid (eqf Z (numsOf s) = false) := by
          show _ = _
          cases hh : eqf Z (numsOf s) with
          | false => rfl
          | true =>
            have := (eqf_iff _ _).1 hh k (by rw [HZl.out]; exact hlt)
            rw [numsOf_get s k hks] at this
            exact absurd this e
        clear HI hc
        generalize Z[k]?.getD 0 = x at *
        by_cases h1 : 65 ≤ x
        · by_cases h2 : x ≤ 90
          · have e1 : lowI x = x + 32 := by simp [lowI, h1, h2]
            rw [e1] at e
            have e' : ((x + 32) != (s[k].toNat : Int)) = true := by rw [bne_iff_ne]; exact e
            clear e1 e
            go_wp2
            go_ret
            exact ⟨ret_bool HF.out.symm, rfl⟩
          · have e1 : lowI x = x := by simp [lowI, h2]
            rw [e1] at e
            have e' : (x != (s[k].toNat : Int)) = true := by rw [bne_iff_ne]; exact e
            clear e1 e
            go_wp2
            go_ret
            exact ⟨ret_bool HF.out.symm, rfl⟩
        · have e1 : lowI x = x := by simp [lowI, h1]
          rw [e1] at e
          have e' : (x != (s[k].toNat : Int)) = true := by rw [bne_iff_ne]; exact e
          clear e1 e
          go_wp2
          go_ret
          exact ⟨ret_bool HF.out.symm, rfl⟩
    · have HF : Hid (eqf Z (numsOf s) = true) := (eqf_iff _ _).2 (fun i hi => HI.out i (by rw [HZl.out] at hi; omega))
      clear HI
      go_wp2
      go_ret
      exact ⟨ret_bool HF.out.symm, rfl⟩

theorem zzEqualFold_any (B : Nat) (a : Option Addr) (n c : Nat) (Z : List Int) (s : ByteArray) (w : World) (hn : n ≤ 1048576) (hs : s.size ≤ maxLen) (hns : n ≤ s.size) (hT : TextIn w B a n Z) :
    Calls Try.prog 20 #[.slice a n c, .string s] w fun e w' => e = .returned (.bool (eqf Z (numsOf s))) ∧ w' = w := by
  have H := hidIt (equalFold_any B a n c Z s w hn hs hns hT)
  clear hT
  unfold maxLen at hs
  generalize eqf Z (numsOf s) = r at *
  go_enter Try.func20, Try.ntmps20
  go_wp2_with (go_at_call 56; refine H.out.mono ?_; intro e w' h; obtain ⟨rfl, h⟩ := h; rw [h]; clear h w')
  go_ret
  exact ⟨rfl, rfl⟩
end Go.Proofs.Qxb6001662a.Wl
