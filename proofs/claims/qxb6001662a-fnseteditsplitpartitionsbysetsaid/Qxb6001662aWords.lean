import Derived.Test.Qxb6001662aBase
namespace Go.Proofs.Qxb6001662a.Wl
open Go.RowKit
open Go.Proofs.Qxb6001662a.Bs
set_option linter.unusedVariables false

/-! ### slices of strings, in memory below block B -/
def WordsIn (w : World) (B : Nat) (a : Option Addr) (n : Nat) (A : List ByteArray) : Prop :=
  A.length = n ∧ (∀ i : Nat, (A[i]?.getD ByteArray.empty).size ≤ maxLen) ∧
  (0 < n → ∃ b off, a = some ⟨b, off, none⟩ ∧ b < B ∧ ∀ i, i < n → w.cell? ⟨b, off + i, none⟩ = some (.string (A[i]?.getD ByteArray.empty)))
theorem WordsIn.below {w w' : World} {B : Nat} {a : Option Addr} {n : Nat} {A : List ByteArray} (h : WordsIn w B a n A) (hb : Below B w w') : WordsIn w' B a n A := by
  obtain ⟨h1, h2, h3⟩ := h
  refine ⟨h1, h2, fun hp => ?_⟩
  obtain ⟨b, off, e, hl, hc⟩ := h3 hp
  exact ⟨b, off, e, hl, fun i hi => (hb.cell (by exact hl)).trans (hc i hi)⟩
theorem WordsIn.mono {w : World} {B B' : Nat} {a : Option Addr} {n : Nat} {A : List ByteArray} (h : WordsIn w B a n A) (hB : B ≤ B') : WordsIn w B' a n A := by
  obtain ⟨h1, h2, h3⟩ := h
  refine ⟨h1, h2, fun hp => ?_⟩
  obtain ⟨b, off, e, hl, hc⟩ := h3 hp
  exact ⟨b, off, e, Nat.lt_of_lt_of_le hl hB, hc⟩
theorem WordsIn.drawn {w w' : World} {B : Nat} {a : Option Addr} {n : Nat} {A : List ByteArray} (h : WordsIn w B a n A) (hd : Drawn w w') : WordsIn w' B a n A := h.below (hd.below _)
theorem WordsIn.none_len {w : World} {B n : Nat} {A : List ByteArray} (h : WordsIn w B none n A) : n = 0 := by
  rcases Nat.eq_zero_or_pos n with h0 | h0
  · exact h0
  · obtain ⟨_, _, e, _⟩ := h.2.2 h0
    cases e
theorem WordsIn.upto {w : World} {B : Nat} {a : Option Addr} {n m : Nat} {A : List ByteArray} (h : WordsIn w B a n A) (hm : m ≤ n) : WordsIn w B a m (A.take m) := by
  obtain ⟨h1, h2, h3⟩ := h
  refine ⟨by rw [List.length_take]; omega, fun i => ?_, fun hp => ?_⟩
  · rw [List.getElem?_take]
    split
    · exact h2 i
    · exact Nat.zero_le _
  · obtain ⟨b, off, e, hl, hc⟩ := h3 (by omega)
    refine ⟨b, off, e, hl, fun i hi => ?_⟩
    rw [hc i (by omega), List.getElem?_take_of_lt hi]

theorem str_beq (x y : ByteArray) : (x.toList == y.toList) = decide (x = y) := by
  rw [ByteArray.toList_eq, ByteArray.toList_eq]
  by_cases h : x = y
  · subst h; simp
  · rw [decide_eq_false h, beq_eq_false_iff_ne]
    intro e
    apply h
    cases x; cases y
    congr
    exact Array.toList_inj.1 e

def AnyTot (e : Ending) : Prop := ∃ r : Int, e = .returned (.int .i64 r) ∧ 0 ≤ r ∧ r ≤ 1048577

set_option maxHeartbeats 1000000 in
theorem zzAddString_any (t : Int) (s : ByteArray) (w : World) (ht0 : 0 ≤ t) (ht1 : t ≤ 2000000) (hs : s.size ≤ maxLen) : Calls Try.prog 48 #[.int .i64 t, .string s] w fun e w' => AnyTot e ∧ w' = w := by
  unfold maxLen at hs
  by_cases h1 : s.size ≤ 1048576
  · by_cases h2 : t + s.size ≤ 1048576
    · go_enter Try.func48, Try.ntmps48
      go_wp2
      go_ret
      exact ⟨⟨_, rfl, by omega, by omega⟩, rfl⟩
    · go_enter Try.func48, Try.ntmps48
      go_wp2
      go_ret
      exact ⟨⟨_, rfl, by omega, by omega⟩, rfl⟩
  · go_enter Try.func48, Try.ntmps48
    go_wp2
    go_ret
    exact ⟨⟨_, rfl, by omega, by omega⟩, rfl⟩

set_option maxHeartbeats 1000000 in
theorem zzAddWords_any (B : Nat) (t : Int) (a : Option Addr) (n c : Nat) (A : List ByteArray) (w : World) (ht0 : 0 ≤ t) (ht1 : t ≤ 1048576) (hn : n ≤ maxLen) (hA : WordsIn w B a n A) : Calls Try.prog 35 #[.int .i64 t, .slice a n c] w fun e w' => AnyTot e ∧ w' = w := by
  have HA := hidIt hA
  clear hA
  unfold maxLen at hn
  by_cases h1 : t + 24 ≤ 1048576
  · go_enter Try.func35, Try.ntmps35
    go_wp2
    go_loop [0, 5] (fun z i => ∃ (s : Int) (k : Nat), z = .int .i64 s ∧ 0 ≤ s ∧ s ≤ 1048576 ∧ k ≤ n ∧ i = .int .i64 k) (fun _ i => n - (intOf i).toNat)
    case atStart => exact ⟨t + 24, 0, rfl, by omega, by omega, Nat.zero_le _, rfl⟩
    case round =>
      obtain ⟨s, k, rfl, hs0, hs1, hk, rfl⟩ := hrel
      by_cases hlt : k < n
      · obtain ⟨b, off, rfl, _, hc⟩ := HA.out.2.2 (by omega)
        have g := hc k hlt
        have HS := hidIt (zzAddString_any (s + 16) (A[k]?.getD ByteArray.empty) w (by omega) (by omega) (HA.out.2.1 k))
        have hlt' : (k : Int) < (n : Int) := by omega
        clear hc
        generalize A[k]?.getD ByteArray.empty = x at *
        go_wp2_with fail
        refine HS.out.mono ?_
        intro e w' h; obtain ⟨⟨r, rfl, hr0, hr1⟩, h⟩ := h; rw [h]; clear h w' HS
        by_cases h2 : r ≤ 1048576
        · go_wp2
          go_round
          case rel => exact ⟨r, k + 1, rfl, by omega, by omega, by omega, by go_num⟩
          case measure => simp [intOf]; omega
        · go_wp2
          go_ret
          exact ⟨⟨_, rfl, by omega, by omega⟩, rfl⟩
      · go_wp2
        go_ret
        exact ⟨⟨_, rfl, by omega, by omega⟩, rfl⟩
  · go_enter Try.func35, Try.ntmps35
    go_wp2
    go_ret
    exact ⟨⟨_, rfl, by omega, by omega⟩, rfl⟩
end Go.Proofs.Qxb6001662a.Wl
