import Derived.Test.Qxb6603095aRows
import Derived.Test.Qxb6603095aPlain
import Derived.WalkKit
import Derived.ProofKit
import Derived.WalkSpells
import Derived.WalkLawsBesides
namespace Go.Proofs.Qxb6603095a.Wk
open Go.RowKit
open Go.Proofs.Qxb6603095a.Pl

theorem isLetter_any (c : Int) (w : World) :
    Calls Try.prog 34 #[.int .u8 c] w fun e w' => e = .returned (.bool (isLetterB c)) ∧ w' = w := by
  unfold isLetterB
  by_cases h1 : 97 ≤ c <;> by_cases h2 : c ≤ 122 <;> by_cases h3 : 65 ≤ c <;> by_cases h4 : c ≤ 90 <;>
  first
  | (exfalso; omega)
  | (simp only [h1, h2, h3, h4]
     go_enter Try.func34, Try.ntmps34
     go_wp2
     go_ret
     exact ⟨rfl, rfl⟩)

theorem ret_int {k : IntKind} {a b : Int} (h : a = b) : Ending.returned (.int k a) = .returned (.int k b) := by rw [h]

theorem ret_bool {a b : Bool} (h : a = b) : Ending.returned (.bool a) = .returned (.bool b) := by rw [h]

theorem hexVal_any (c : Int) (h0 : 0 ≤ c) (h9 : c ≤ 255) (w : World) :
    Calls Try.prog 35 #[.int .u8 c] w fun e w' => e = .returned (.int .i64 (hexVal c)) ∧ w' = w := by
  have key : ∀ r : Int, hexVal c = r → (Calls Try.prog 35 #[.int .u8 c] w fun e w' => e = .returned (.int .i64 r) ∧ w' = w) →
      Calls Try.prog 35 #[.int .u8 c] w fun e w' => e = .returned (.int .i64 (hexVal c)) ∧ w' = w := by
    intro r hr h; rw [hr]; exact h
  by_cases h1 : 48 ≤ c ∧ c ≤ 57
  · obtain ⟨h1, h2⟩ := h1
    refine key (c - 48) (by unfold hexVal; rw [if_pos ⟨h1, h2⟩]) ?_
    clear key
    go_enter Try.func35, Try.ntmps35
    go_wp2
    go_ret
    exact ⟨ret_int (by omega), rfl⟩
  · by_cases h2 : 97 ≤ c ∧ c ≤ 102
    · refine key (c - 87) (by unfold hexVal; rw [if_neg h1, if_pos h2]) ?_
      clear key
      obtain ⟨h2, h3⟩ := h2
      have h4 : 48 ≤ c := by omega
      have h5 : ¬ c ≤ 57 := by omega
      clear h1
      go_enter Try.func35, Try.ntmps35
      go_wp2
      go_ret
      exact ⟨ret_int (by omega), rfl⟩
    · by_cases h3 : 65 ≤ c ∧ c ≤ 70
      · refine key (c - 55) (by unfold hexVal; rw [if_neg h1, if_neg h2, if_pos h3]) ?_
        clear key
        obtain ⟨h3, h4⟩ := h3
        have h5 : 48 ≤ c := by omega
        have h6 : ¬ c ≤ 57 := by omega
        have h7 : ¬ 97 ≤ c := by omega
        clear h1 h2
        go_enter Try.func35, Try.ntmps35
        go_wp2
        go_ret
        exact ⟨ret_int (by omega), rfl⟩
      · refine key (-1) (by unfold hexVal; rw [if_neg h1, if_neg h2, if_neg h3]) ?_
        clear key
        by_cases a1 : 48 ≤ c <;> by_cases a2 : c ≤ 57 <;> by_cases a3 : 97 ≤ c <;> by_cases a4 : c ≤ 102 <;> by_cases a5 : 65 ≤ c <;> by_cases a6 : c ≤ 70 <;>
        first
        | (exfalso; omega)
        | (clear h1 h2 h3
           go_enter Try.func35, Try.ntmps35
           go_wp2
           go_ret
           exact ⟨rfl, rfl⟩)

theorem bytes23 (a : Option Addr) (n c : Nat) (s : ByteArray) (hn : n ≤ maxLen) (hs : s.size ≤ maxLen) (w : World) :
    Calls Try.prog 23 #[.slice a n c, .string s] w fun e w' => e = .returned (.bool (decide (n + s.size ≤ 1048576))) ∧ w' = w := by
  unfold maxLen at hn hs
  by_cases h1 : n ≤ 1048576
  · by_cases h2 : n + s.size ≤ 1048576
    · rw [decide_eq_true h2]
      go_enter Try.func23, Try.ntmps23
      go_wp2
      go_ret
      exact ⟨rfl, rfl⟩
    · rw [decide_eq_false h2]
      by_cases h3 : s.size ≤ 1048576
      · go_enter Try.func23, Try.ntmps23
        go_wp2
        go_ret
        exact ⟨rfl, rfl⟩
      · go_enter Try.func23, Try.ntmps23
        go_wp2
        go_ret
        exact ⟨rfl, rfl⟩
  · rw [decide_eq_false (by omega)]
    go_enter Try.func23, Try.ntmps23
    go_wp2
    go_ret
    exact ⟨rfl, rfl⟩

/-! ### zzAllLetters -/
def lettersB (l : List UInt8) : Bool := l.all fun c => isLetterB (c.toNat : Int)

theorem lettersB_take (s : ByteArray) (k : Nat) (hk : k < s.size) :
    lettersB (s.data.toList.take (k + 1)) = (lettersB (s.data.toList.take k) && isLetterB (s[k].toNat : Int)) := by
  unfold lettersB
  rw [List.take_succ_eq_append_getElem (by simpa using hk)]
  simp [List.all_append]
  rfl

theorem lettersB_bad (s : ByteArray) (k : Nat) (hk : k < s.size) (h : isLetterB (s[k].toNat : Int) = false) : lettersB s.data.toList = false := by
  unfold lettersB
  rw [List.all_eq_false]
  exact ⟨s[k], by rw [ByteArray.getElem_eq_getElem_data]; simp, by simp [h]⟩

theorem allLetters_any (s : ByteArray) (hs : s.size ≤ maxLen) (w : World) :
    Calls Try.prog 24 #[.string s] w fun e w' => e = .returned (.bool (lettersB s.data.toList)) ∧ w' = w := by
  unfold maxLen at hs
  go_enter Try.func24, Try.ntmps24
  go_wp2
  go_loop [3] (fun i => ∃ k : Nat, k ≤ s.size ∧ i = .int .i64 k ∧ lettersB (s.data.toList.take k) = true) (fun i => s.size - (intOf i).toNat)
  case atStart => exact ⟨0, Nat.zero_le _, rfl, rfl⟩
  case round =>
    obtain ⟨k, hk, rfl, hL⟩ := hrel
    have HL : Hid (lettersB (s.data.toList.take k) = true) := hL
    clear hL
    by_cases hlt : k < s.size
    · cases hb : isLetterB (s[k].toNat : Int)
      · have HB : Hid (lettersB s.data.toList = false) := lettersB_bad s k hlt hb
        go_wp2_with (go_at_call 34; refine (isLetter_any _ _).mono ?_; rintro e w' ⟨rfl, rfl⟩)
        go_ret
        exact ⟨ret_bool HB.out.symm, rfl⟩
      · have HB : Hid (lettersB (s.data.toList.take (k + 1)) = true) := by
          rw [lettersB_take s k hlt, HL.out, hb]; rfl
        go_wp2_with (go_at_call 34; refine (isLetter_any _ _).mono ?_; rintro e w' ⟨rfl, rfl⟩)
        go_round
        case rel => exact ⟨k + 1, by omega, by go_num, HB.out⟩
        case measure => simp [intOf]; omega
    · have HB : Hid (lettersB s.data.toList = true) := by
        have := HL.out
        rwa [List.take_of_length_le (by simp; omega)] at this
      go_wp2
      go_ret
      exact ⟨ret_bool HB.out.symm, rfl⟩
end Go.Proofs.Qxb6603095a.Wk
