import Derived.Test.Qxb6603095aBase
import Derived.Test.Qxb6603095aNumPl
namespace Go.Proofs.Qxb6603095a.Wn
open Go.RowKit
open Go.Proofs.Qxb6603095a.Pl Go.Proofs.Qxb6603095a.Bs
set_option linter.unusedVariables false

/-! ### zzNumStep: the nine states, nine kinds of bytes -/
theorem kinds (c : Int) : c = 45 ∨ c = 48 ∨ (49 ≤ c ∧ c ≤ 57) ∨ c = 46 ∨ c = 101 ∨ c = 69 ∨ c = 43 ∨ (c < 48 ∧ c ≠ 45 ∧ c ≠ 46 ∧ c ≠ 43) ∨ (57 < c ∧ c ≠ 101 ∧ c ≠ 69) := by omega

theorem step_of (q c r : Int) (w : World) (hr : numStep q c = r) (h : Calls Try.prog 30 #[.int .i64 q, .int .u8 c] w fun e w' => e = .returned (.int .i64 r) ∧ w' = w) :
    Calls Try.prog 30 #[.int .i64 q, .int .u8 c] w fun e w' => e = .returned (.int .i64 (numStep q c)) ∧ w' = w := by rw [hr]; exact h

theorem numStep0 (c : Int) (w : World) (hc0 : 0 ≤ c) (hc1 : c ≤ 255) :
    Calls Try.prog 30 #[.int .i64 0, .int .u8 c] w fun e w' => e = .returned (.int .i64 (numStep 0 c)) ∧ w' = w := by
  rcases kinds c with rfl | rfl | ⟨h1, h2⟩ | rfl | rfl | rfl | rfl | ⟨h1, h2, h3, h4⟩ | ⟨h1, h2, h3⟩
  · refine step_of 0 _ 1 w (by unfold numStep; repeat (first | rw [if_pos (by omega)] | rw [if_neg (by omega)])) ?_
    go_enter Try.func30, Try.ntmps30
    go_wp2; go_ret; exact ⟨rfl, rfl⟩
  · refine step_of 0 _ 2 w (by unfold numStep; repeat (first | rw [if_pos (by omega)] | rw [if_neg (by omega)])) ?_
    go_enter Try.func30, Try.ntmps30
    go_wp2; go_ret; exact ⟨rfl, rfl⟩
  · refine step_of 0 _ 3 w (by unfold numStep; repeat (first | rw [if_pos (by omega)] | rw [if_neg (by omega)])) ?_
    have f45 : (c == 45) = false := beq_eq_false_iff_ne.2 (by omega)
    have f48 : (c == 48) = false := beq_eq_false_iff_ne.2 (by omega)
    have f46 : (c == 46) = false := beq_eq_false_iff_ne.2 (by omega)
    have f101 : (c == 101) = false := beq_eq_false_iff_ne.2 (by omega)
    have f69 : (c == 69) = false := beq_eq_false_iff_ne.2 (by omega)
    have f43 : (c == 43) = false := beq_eq_false_iff_ne.2 (by omega)
    go_enter Try.func30, Try.ntmps30
    go_wp2; go_ret; exact ⟨rfl, rfl⟩
  · refine step_of 0 _ (-1) w (by unfold numStep; repeat (first | rw [if_pos (by omega)] | rw [if_neg (by omega)])) ?_
    go_enter Try.func30, Try.ntmps30
    go_wp2; go_ret; exact ⟨rfl, rfl⟩
  · refine step_of 0 _ (-1) w (by unfold numStep; repeat (first | rw [if_pos (by omega)] | rw [if_neg (by omega)])) ?_
    go_enter Try.func30, Try.ntmps30
    go_wp2; go_ret; exact ⟨rfl, rfl⟩
  · refine step_of 0 _ (-1) w (by unfold numStep; repeat (first | rw [if_pos (by omega)] | rw [if_neg (by omega)])) ?_
    go_enter Try.func30, Try.ntmps30
    go_wp2; go_ret; exact ⟨rfl, rfl⟩
  · refine step_of 0 _ (-1) w (by unfold numStep; repeat (first | rw [if_pos (by omega)] | rw [if_neg (by omega)])) ?_
    go_enter Try.func30, Try.ntmps30
    go_wp2; go_ret; exact ⟨rfl, rfl⟩
  · refine step_of 0 _ (-1) w (by unfold numStep; repeat (first | rw [if_pos (by omega)] | rw [if_neg (by omega)])) ?_
    have f45 : (c == 45) = false := beq_eq_false_iff_ne.2 (by omega)
    have f48 : (c == 48) = false := beq_eq_false_iff_ne.2 (by omega)
    have f46 : (c == 46) = false := beq_eq_false_iff_ne.2 (by omega)
    have f101 : (c == 101) = false := beq_eq_false_iff_ne.2 (by omega)
    have f69 : (c == 69) = false := beq_eq_false_iff_ne.2 (by omega)
    have f43 : (c == 43) = false := beq_eq_false_iff_ne.2 (by omega)
    go_enter Try.func30, Try.ntmps30
    go_wp2; go_ret; exact ⟨rfl, rfl⟩
  · refine step_of 0 _ (-1) w (by unfold numStep; repeat (first | rw [if_pos (by omega)] | rw [if_neg (by omega)])) ?_
    have f45 : (c == 45) = false := beq_eq_false_iff_ne.2 (by omega)
    have f48 : (c == 48) = false := beq_eq_false_iff_ne.2 (by omega)
    have f46 : (c == 46) = false := beq_eq_false_iff_ne.2 (by omega)
    have f101 : (c == 101) = false := beq_eq_false_iff_ne.2 (by omega)
    have f69 : (c == 69) = false := beq_eq_false_iff_ne.2 (by omega)
    have f43 : (c == 43) = false := beq_eq_false_iff_ne.2 (by omega)
    go_enter Try.func30, Try.ntmps30
    go_wp2; go_ret; exact ⟨rfl, rfl⟩

theorem numStep1 (c : Int) (w : World) (hc0 : 0 ≤ c) (hc1 : c ≤ 255) :
    Calls Try.prog 30 #[.int .i64 1, .int .u8 c] w fun e w' => e = .returned (.int .i64 (numStep 1 c)) ∧ w' = w := by
  rcases kinds c with rfl | rfl | ⟨h1, h2⟩ | rfl | rfl | rfl | rfl | ⟨h1, h2, h3, h4⟩ | ⟨h1, h2, h3⟩
  · refine step_of 1 _ (-1) w (by unfold numStep; repeat (first | rw [if_pos (by omega)] | rw [if_neg (by omega)])) ?_
    go_enter Try.func30, Try.ntmps30
    go_wp2; go_ret; exact ⟨rfl, rfl⟩
  · refine step_of 1 _ 2 w (by unfold numStep; repeat (first | rw [if_pos (by omega)] | rw [if_neg (by omega)])) ?_
    go_enter Try.func30, Try.ntmps30
    go_wp2; go_ret; exact ⟨rfl, rfl⟩
  · refine step_of 1 _ 3 w (by unfold numStep; repeat (first | rw [if_pos (by omega)] | rw [if_neg (by omega)])) ?_
    have f45 : (c == 45) = false := beq_eq_false_iff_ne.2 (by omega)
    have f48 : (c == 48) = false := beq_eq_false_iff_ne.2 (by omega)
    have f46 : (c == 46) = false := beq_eq_false_iff_ne.2 (by omega)
    have f101 : (c == 101) = false := beq_eq_false_iff_ne.2 (by omega)
    have f69 : (c == 69) = false := beq_eq_false_iff_ne.2 (by omega)
    have f43 : (c == 43) = false := beq_eq_false_iff_ne.2 (by omega)
    go_enter Try.func30, Try.ntmps30
    go_wp2; go_ret; exact ⟨rfl, rfl⟩
  · refine step_of 1 _ (-1) w (by unfold numStep; repeat (first | rw [if_pos (by omega)] | rw [if_neg (by omega)])) ?_
    go_enter Try.func30, Try.ntmps30
    go_wp2; go_ret; exact ⟨rfl, rfl⟩
  · refine step_of 1 _ (-1) w (by unfold numStep; repeat (first | rw [if_pos (by omega)] | rw [if_neg (by omega)])) ?_
    go_enter Try.func30, Try.ntmps30
    go_wp2; go_ret; exact ⟨rfl, rfl⟩
  · refine step_of 1 _ (-1) w (by unfold numStep; repeat (first | rw [if_pos (by omega)] | rw [if_neg (by omega)])) ?_
    go_enter Try.func30, Try.ntmps30
    go_wp2; go_ret; exact ⟨rfl, rfl⟩
  · refine step_of 1 _ (-1) w (by unfold numStep; repeat (first | rw [if_pos (by omega)] | rw [if_neg (by omega)])) ?_
    go_enter Try.func30, Try.ntmps30
    go_wp2; go_ret; exact ⟨rfl, rfl⟩
  · refine step_of 1 _ (-1) w (by unfold numStep; repeat (first | rw [if_pos (by omega)] | rw [if_neg (by omega)])) ?_
    have f45 : (c == 45) = false := beq_eq_false_iff_ne.2 (by omega)
    have f48 : (c == 48) = false := beq_eq_false_iff_ne.2 (by omega)
    have f46 : (c == 46) = false := beq_eq_false_iff_ne.2 (by omega)
    have f101 : (c == 101) = false := beq_eq_false_iff_ne.2 (by omega)
    have f69 : (c == 69) = false := beq_eq_false_iff_ne.2 (by omega)
    have f43 : (c == 43) = false := beq_eq_false_iff_ne.2 (by omega)
    go_enter Try.func30, Try.ntmps30
    go_wp2; go_ret; exact ⟨rfl, rfl⟩
  · refine step_of 1 _ (-1) w (by unfold numStep; repeat (first | rw [if_pos (by omega)] | rw [if_neg (by omega)])) ?_
    have f45 : (c == 45) = false := beq_eq_false_iff_ne.2 (by omega)
    have f48 : (c == 48) = false := beq_eq_false_iff_ne.2 (by omega)
    have f46 : (c == 46) = false := beq_eq_false_iff_ne.2 (by omega)
    have f101 : (c == 101) = false := beq_eq_false_iff_ne.2 (by omega)
    have f69 : (c == 69) = false := beq_eq_false_iff_ne.2 (by omega)
    have f43 : (c == 43) = false := beq_eq_false_iff_ne.2 (by omega)
    go_enter Try.func30, Try.ntmps30
    go_wp2; go_ret; exact ⟨rfl, rfl⟩

theorem numStep2 (c : Int) (w : World) (hc0 : 0 ≤ c) (hc1 : c ≤ 255) :
    Calls Try.prog 30 #[.int .i64 2, .int .u8 c] w fun e w' => e = .returned (.int .i64 (numStep 2 c)) ∧ w' = w := by
  rcases kinds c with rfl | rfl | ⟨h1, h2⟩ | rfl | rfl | rfl | rfl | ⟨h1, h2, h3, h4⟩ | ⟨h1, h2, h3⟩
  · refine step_of 2 _ (-1) w (by unfold numStep; repeat (first | rw [if_pos (by omega)] | rw [if_neg (by omega)])) ?_
    go_enter Try.func30, Try.ntmps30
    go_wp2; go_ret; exact ⟨rfl, rfl⟩
  · refine step_of 2 _ (-1) w (by unfold numStep; repeat (first | rw [if_pos (by omega)] | rw [if_neg (by omega)])) ?_
    go_enter Try.func30, Try.ntmps30
    go_wp2; go_ret; exact ⟨rfl, rfl⟩
  · refine step_of 2 _ (-1) w (by unfold numStep; repeat (first | rw [if_pos (by omega)] | rw [if_neg (by omega)])) ?_
    have f45 : (c == 45) = false := beq_eq_false_iff_ne.2 (by omega)
    have f48 : (c == 48) = false := beq_eq_false_iff_ne.2 (by omega)
    have f46 : (c == 46) = false := beq_eq_false_iff_ne.2 (by omega)
    have f101 : (c == 101) = false := beq_eq_false_iff_ne.2 (by omega)
    have f69 : (c == 69) = false := beq_eq_false_iff_ne.2 (by omega)
    have f43 : (c == 43) = false := beq_eq_false_iff_ne.2 (by omega)
    go_enter Try.func30, Try.ntmps30
    go_wp2; go_ret; exact ⟨rfl, rfl⟩
  · refine step_of 2 _ 4 w (by unfold numStep; repeat (first | rw [if_pos (by omega)] | rw [if_neg (by omega)])) ?_
    go_enter Try.func30, Try.ntmps30
    go_wp2; go_ret; exact ⟨rfl, rfl⟩
  · refine step_of 2 _ 6 w (by unfold numStep; repeat (first | rw [if_pos (by omega)] | rw [if_neg (by omega)])) ?_
    go_enter Try.func30, Try.ntmps30
    go_wp2; go_ret; exact ⟨rfl, rfl⟩
  · refine step_of 2 _ 6 w (by unfold numStep; repeat (first | rw [if_pos (by omega)] | rw [if_neg (by omega)])) ?_
    go_enter Try.func30, Try.ntmps30
    go_wp2; go_ret; exact ⟨rfl, rfl⟩
  · refine step_of 2 _ (-1) w (by unfold numStep; repeat (first | rw [if_pos (by omega)] | rw [if_neg (by omega)])) ?_
    go_enter Try.func30, Try.ntmps30
    go_wp2; go_ret; exact ⟨rfl, rfl⟩
  · refine step_of 2 _ (-1) w (by unfold numStep; repeat (first | rw [if_pos (by omega)] | rw [if_neg (by omega)])) ?_
    have f45 : (c == 45) = false := beq_eq_false_iff_ne.2 (by omega)
    have f48 : (c == 48) = false := beq_eq_false_iff_ne.2 (by omega)
    have f46 : (c == 46) = false := beq_eq_false_iff_ne.2 (by omega)
    have f101 : (c == 101) = false := beq_eq_false_iff_ne.2 (by omega)
    have f69 : (c == 69) = false := beq_eq_false_iff_ne.2 (by omega)
    have f43 : (c == 43) = false := beq_eq_false_iff_ne.2 (by omega)
    go_enter Try.func30, Try.ntmps30
    go_wp2; go_ret; exact ⟨rfl, rfl⟩
  · refine step_of 2 _ (-1) w (by unfold numStep; repeat (first | rw [if_pos (by omega)] | rw [if_neg (by omega)])) ?_
    have f45 : (c == 45) = false := beq_eq_false_iff_ne.2 (by omega)
    have f48 : (c == 48) = false := beq_eq_false_iff_ne.2 (by omega)
    have f46 : (c == 46) = false := beq_eq_false_iff_ne.2 (by omega)
    have f101 : (c == 101) = false := beq_eq_false_iff_ne.2 (by omega)
    have f69 : (c == 69) = false := beq_eq_false_iff_ne.2 (by omega)
    have f43 : (c == 43) = false := beq_eq_false_iff_ne.2 (by omega)
    go_enter Try.func30, Try.ntmps30
    go_wp2; go_ret; exact ⟨rfl, rfl⟩

theorem numStep3 (c : Int) (w : World) (hc0 : 0 ≤ c) (hc1 : c ≤ 255) :
    Calls Try.prog 30 #[.int .i64 3, .int .u8 c] w fun e w' => e = .returned (.int .i64 (numStep 3 c)) ∧ w' = w := by
  rcases kinds c with rfl | rfl | ⟨h1, h2⟩ | rfl | rfl | rfl | rfl | ⟨h1, h2, h3, h4⟩ | ⟨h1, h2, h3⟩
  · refine step_of 3 _ (-1) w (by unfold numStep; repeat (first | rw [if_pos (by omega)] | rw [if_neg (by omega)])) ?_
    go_enter Try.func30, Try.ntmps30
    go_wp2; go_ret; exact ⟨rfl, rfl⟩
  · refine step_of 3 _ 3 w (by unfold numStep; repeat (first | rw [if_pos (by omega)] | rw [if_neg (by omega)])) ?_
    go_enter Try.func30, Try.ntmps30
    go_wp2; go_ret; exact ⟨rfl, rfl⟩
  · refine step_of 3 _ 3 w (by unfold numStep; repeat (first | rw [if_pos (by omega)] | rw [if_neg (by omega)])) ?_
    have f45 : (c == 45) = false := beq_eq_false_iff_ne.2 (by omega)
    have f48 : (c == 48) = false := beq_eq_false_iff_ne.2 (by omega)
    have f46 : (c == 46) = false := beq_eq_false_iff_ne.2 (by omega)
    have f101 : (c == 101) = false := beq_eq_false_iff_ne.2 (by omega)
    have f69 : (c == 69) = false := beq_eq_false_iff_ne.2 (by omega)
    have f43 : (c == 43) = false := beq_eq_false_iff_ne.2 (by omega)
    go_enter Try.func30, Try.ntmps30
    go_wp2; go_ret; exact ⟨rfl, rfl⟩
  · refine step_of 3 _ 4 w (by unfold numStep; repeat (first | rw [if_pos (by omega)] | rw [if_neg (by omega)])) ?_
    go_enter Try.func30, Try.ntmps30
    go_wp2; go_ret; exact ⟨rfl, rfl⟩
  · refine step_of 3 _ 6 w (by unfold numStep; repeat (first | rw [if_pos (by omega)] | rw [if_neg (by omega)])) ?_
    go_enter Try.func30, Try.ntmps30
    go_wp2; go_ret; exact ⟨rfl, rfl⟩
  · refine step_of 3 _ 6 w (by unfold numStep; repeat (first | rw [if_pos (by omega)] | rw [if_neg (by omega)])) ?_
    go_enter Try.func30, Try.ntmps30
    go_wp2; go_ret; exact ⟨rfl, rfl⟩
  · refine step_of 3 _ (-1) w (by unfold numStep; repeat (first | rw [if_pos (by omega)] | rw [if_neg (by omega)])) ?_
    go_enter Try.func30, Try.ntmps30
    go_wp2; go_ret; exact ⟨rfl, rfl⟩
  · refine step_of 3 _ (-1) w (by unfold numStep; repeat (first | rw [if_pos (by omega)] | rw [if_neg (by omega)])) ?_
    have f45 : (c == 45) = false := beq_eq_false_iff_ne.2 (by omega)
    have f48 : (c == 48) = false := beq_eq_false_iff_ne.2 (by omega)
    have f46 : (c == 46) = false := beq_eq_false_iff_ne.2 (by omega)
    have f101 : (c == 101) = false := beq_eq_false_iff_ne.2 (by omega)
    have f69 : (c == 69) = false := beq_eq_false_iff_ne.2 (by omega)
    have f43 : (c == 43) = false := beq_eq_false_iff_ne.2 (by omega)
    go_enter Try.func30, Try.ntmps30
    go_wp2; go_ret; exact ⟨rfl, rfl⟩
  · refine step_of 3 _ (-1) w (by unfold numStep; repeat (first | rw [if_pos (by omega)] | rw [if_neg (by omega)])) ?_
    have f45 : (c == 45) = false := beq_eq_false_iff_ne.2 (by omega)
    have f48 : (c == 48) = false := beq_eq_false_iff_ne.2 (by omega)
    have f46 : (c == 46) = false := beq_eq_false_iff_ne.2 (by omega)
    have f101 : (c == 101) = false := beq_eq_false_iff_ne.2 (by omega)
    have f69 : (c == 69) = false := beq_eq_false_iff_ne.2 (by omega)
    have f43 : (c == 43) = false := beq_eq_false_iff_ne.2 (by omega)
    go_enter Try.func30, Try.ntmps30
    go_wp2; go_ret; exact ⟨rfl, rfl⟩

theorem numStep4 (c : Int) (w : World) (hc0 : 0 ≤ c) (hc1 : c ≤ 255) :
    Calls Try.prog 30 #[.int .i64 4, .int .u8 c] w fun e w' => e = .returned (.int .i64 (numStep 4 c)) ∧ w' = w := by
  rcases kinds c with rfl | rfl | ⟨h1, h2⟩ | rfl | rfl | rfl | rfl | ⟨h1, h2, h3, h4⟩ | ⟨h1, h2, h3⟩
  · refine step_of 4 _ (-1) w (by unfold numStep; repeat (first | rw [if_pos (by omega)] | rw [if_neg (by omega)])) ?_
    go_enter Try.func30, Try.ntmps30
    go_wp2; go_ret; exact ⟨rfl, rfl⟩
  · refine step_of 4 _ 5 w (by unfold numStep; repeat (first | rw [if_pos (by omega)] | rw [if_neg (by omega)])) ?_
    go_enter Try.func30, Try.ntmps30
    go_wp2; go_ret; exact ⟨rfl, rfl⟩
  · refine step_of 4 _ 5 w (by unfold numStep; repeat (first | rw [if_pos (by omega)] | rw [if_neg (by omega)])) ?_
    have f45 : (c == 45) = false := beq_eq_false_iff_ne.2 (by omega)
    have f48 : (c == 48) = false := beq_eq_false_iff_ne.2 (by omega)
    have f46 : (c == 46) = false := beq_eq_false_iff_ne.2 (by omega)
    have f101 : (c == 101) = false := beq_eq_false_iff_ne.2 (by omega)
    have f69 : (c == 69) = false := beq_eq_false_iff_ne.2 (by omega)
    have f43 : (c == 43) = false := beq_eq_false_iff_ne.2 (by omega)
    go_enter Try.func30, Try.ntmps30
    go_wp2; go_ret; exact ⟨rfl, rfl⟩
  · refine step_of 4 _ (-1) w (by unfold numStep; repeat (first | rw [if_pos (by omega)] | rw [if_neg (by omega)])) ?_
    go_enter Try.func30, Try.ntmps30
    go_wp2; go_ret; exact ⟨rfl, rfl⟩
  · refine step_of 4 _ (-1) w (by unfold numStep; repeat (first | rw [if_pos (by omega)] | rw [if_neg (by omega)])) ?_
    go_enter Try.func30, Try.ntmps30
    go_wp2; go_ret; exact ⟨rfl, rfl⟩
  · refine step_of 4 _ (-1) w (by unfold numStep; repeat (first | rw [if_pos (by omega)] | rw [if_neg (by omega)])) ?_
    go_enter Try.func30, Try.ntmps30
    go_wp2; go_ret; exact ⟨rfl, rfl⟩
  · refine step_of 4 _ (-1) w (by unfold numStep; repeat (first | rw [if_pos (by omega)] | rw [if_neg (by omega)])) ?_
    go_enter Try.func30, Try.ntmps30
    go_wp2; go_ret; exact ⟨rfl, rfl⟩
  · refine step_of 4 _ (-1) w (by unfold numStep; repeat (first | rw [if_pos (by omega)] | rw [if_neg (by omega)])) ?_
    have f45 : (c == 45) = false := beq_eq_false_iff_ne.2 (by omega)
    have f48 : (c == 48) = false := beq_eq_false_iff_ne.2 (by omega)
    have f46 : (c == 46) = false := beq_eq_false_iff_ne.2 (by omega)
    have f101 : (c == 101) = false := beq_eq_false_iff_ne.2 (by omega)
    have f69 : (c == 69) = false := beq_eq_false_iff_ne.2 (by omega)
    have f43 : (c == 43) = false := beq_eq_false_iff_ne.2 (by omega)
    go_enter Try.func30, Try.ntmps30
    go_wp2; go_ret; exact ⟨rfl, rfl⟩
  · refine step_of 4 _ (-1) w (by unfold numStep; repeat (first | rw [if_pos (by omega)] | rw [if_neg (by omega)])) ?_
    have f45 : (c == 45) = false := beq_eq_false_iff_ne.2 (by omega)
    have f48 : (c == 48) = false := beq_eq_false_iff_ne.2 (by omega)
    have f46 : (c == 46) = false := beq_eq_false_iff_ne.2 (by omega)
    have f101 : (c == 101) = false := beq_eq_false_iff_ne.2 (by omega)
    have f69 : (c == 69) = false := beq_eq_false_iff_ne.2 (by omega)
    have f43 : (c == 43) = false := beq_eq_false_iff_ne.2 (by omega)
    go_enter Try.func30, Try.ntmps30
    go_wp2; go_ret; exact ⟨rfl, rfl⟩

theorem numStep5 (c : Int) (w : World) (hc0 : 0 ≤ c) (hc1 : c ≤ 255) :
    Calls Try.prog 30 #[.int .i64 5, .int .u8 c] w fun e w' => e = .returned (.int .i64 (numStep 5 c)) ∧ w' = w := by
  rcases kinds c with rfl | rfl | ⟨h1, h2⟩ | rfl | rfl | rfl | rfl | ⟨h1, h2, h3, h4⟩ | ⟨h1, h2, h3⟩
  · refine step_of 5 _ (-1) w (by unfold numStep; repeat (first | rw [if_pos (by omega)] | rw [if_neg (by omega)])) ?_
    go_enter Try.func30, Try.ntmps30
    go_wp2; go_ret; exact ⟨rfl, rfl⟩
  · refine step_of 5 _ 5 w (by unfold numStep; repeat (first | rw [if_pos (by omega)] | rw [if_neg (by omega)])) ?_
    go_enter Try.func30, Try.ntmps30
    go_wp2; go_ret; exact ⟨rfl, rfl⟩
  · refine step_of 5 _ 5 w (by unfold numStep; repeat (first | rw [if_pos (by omega)] | rw [if_neg (by omega)])) ?_
    have f45 : (c == 45) = false := beq_eq_false_iff_ne.2 (by omega)
    have f48 : (c == 48) = false := beq_eq_false_iff_ne.2 (by omega)
    have f46 : (c == 46) = false := beq_eq_false_iff_ne.2 (by omega)
    have f101 : (c == 101) = false := beq_eq_false_iff_ne.2 (by omega)
    have f69 : (c == 69) = false := beq_eq_false_iff_ne.2 (by omega)
    have f43 : (c == 43) = false := beq_eq_false_iff_ne.2 (by omega)
    go_enter Try.func30, Try.ntmps30
    go_wp2; go_ret; exact ⟨rfl, rfl⟩
  · refine step_of 5 _ (-1) w (by unfold numStep; repeat (first | rw [if_pos (by omega)] | rw [if_neg (by omega)])) ?_
    go_enter Try.func30, Try.ntmps30
    go_wp2; go_ret; exact ⟨rfl, rfl⟩
  · refine step_of 5 _ 6 w (by unfold numStep; repeat (first | rw [if_pos (by omega)] | rw [if_neg (by omega)])) ?_
    go_enter Try.func30, Try.ntmps30
    go_wp2; go_ret; exact ⟨rfl, rfl⟩
  · refine step_of 5 _ 6 w (by unfold numStep; repeat (first | rw [if_pos (by omega)] | rw [if_neg (by omega)])) ?_
    go_enter Try.func30, Try.ntmps30
    go_wp2; go_ret; exact ⟨rfl, rfl⟩
  · refine step_of 5 _ (-1) w (by unfold numStep; repeat (first | rw [if_pos (by omega)] | rw [if_neg (by omega)])) ?_
    go_enter Try.func30, Try.ntmps30
    go_wp2; go_ret; exact ⟨rfl, rfl⟩
  · refine step_of 5 _ (-1) w (by unfold numStep; repeat (first | rw [if_pos (by omega)] | rw [if_neg (by omega)])) ?_
    have f45 : (c == 45) = false := beq_eq_false_iff_ne.2 (by omega)
    have f48 : (c == 48) = false := beq_eq_false_iff_ne.2 (by omega)
    have f46 : (c == 46) = false := beq_eq_false_iff_ne.2 (by omega)
    have f101 : (c == 101) = false := beq_eq_false_iff_ne.2 (by omega)
    have f69 : (c == 69) = false := beq_eq_false_iff_ne.2 (by omega)
    have f43 : (c == 43) = false := beq_eq_false_iff_ne.2 (by omega)
    go_enter Try.func30, Try.ntmps30
    go_wp2; go_ret; exact ⟨rfl, rfl⟩
  · refine step_of 5 _ (-1) w (by unfold numStep; repeat (first | rw [if_pos (by omega)] | rw [if_neg (by omega)])) ?_
    have f45 : (c == 45) = false := beq_eq_false_iff_ne.2 (by omega)
    have f48 : (c == 48) = false := beq_eq_false_iff_ne.2 (by omega)
    have f46 : (c == 46) = false := beq_eq_false_iff_ne.2 (by omega)
    have f101 : (c == 101) = false := beq_eq_false_iff_ne.2 (by omega)
    have f69 : (c == 69) = false := beq_eq_false_iff_ne.2 (by omega)
    have f43 : (c == 43) = false := beq_eq_false_iff_ne.2 (by omega)
    go_enter Try.func30, Try.ntmps30
    go_wp2; go_ret; exact ⟨rfl, rfl⟩

theorem numStep6 (c : Int) (w : World) (hc0 : 0 ≤ c) (hc1 : c ≤ 255) :
    Calls Try.prog 30 #[.int .i64 6, .int .u8 c] w fun e w' => e = .returned (.int .i64 (numStep 6 c)) ∧ w' = w := by
  rcases kinds c with rfl | rfl | ⟨h1, h2⟩ | rfl | rfl | rfl | rfl | ⟨h1, h2, h3, h4⟩ | ⟨h1, h2, h3⟩
  · refine step_of 6 _ 7 w (by unfold numStep; repeat (first | rw [if_pos (by omega)] | rw [if_neg (by omega)])) ?_
    go_enter Try.func30, Try.ntmps30
    go_wp2; go_ret; exact ⟨rfl, rfl⟩
  · refine step_of 6 _ 8 w (by unfold numStep; repeat (first | rw [if_pos (by omega)] | rw [if_neg (by omega)])) ?_
    go_enter Try.func30, Try.ntmps30
    go_wp2; go_ret; exact ⟨rfl, rfl⟩
  · refine step_of 6 _ 8 w (by unfold numStep; repeat (first | rw [if_pos (by omega)] | rw [if_neg (by omega)])) ?_
    have f45 : (c == 45) = false := beq_eq_false_iff_ne.2 (by omega)
    have f48 : (c == 48) = false := beq_eq_false_iff_ne.2 (by omega)
    have f46 : (c == 46) = false := beq_eq_false_iff_ne.2 (by omega)
    have f101 : (c == 101) = false := beq_eq_false_iff_ne.2 (by omega)
    have f69 : (c == 69) = false := beq_eq_false_iff_ne.2 (by omega)
    have f43 : (c == 43) = false := beq_eq_false_iff_ne.2 (by omega)
    go_enter Try.func30, Try.ntmps30
    go_wp2; go_ret; exact ⟨rfl, rfl⟩
  · refine step_of 6 _ (-1) w (by unfold numStep; repeat (first | rw [if_pos (by omega)] | rw [if_neg (by omega)])) ?_
    go_enter Try.func30, Try.ntmps30
    go_wp2; go_ret; exact ⟨rfl, rfl⟩
  · refine step_of 6 _ (-1) w (by unfold numStep; repeat (first | rw [if_pos (by omega)] | rw [if_neg (by omega)])) ?_
    go_enter Try.func30, Try.ntmps30
    go_wp2; go_ret; exact ⟨rfl, rfl⟩
  · refine step_of 6 _ (-1) w (by unfold numStep; repeat (first | rw [if_pos (by omega)] | rw [if_neg (by omega)])) ?_
    go_enter Try.func30, Try.ntmps30
    go_wp2; go_ret; exact ⟨rfl, rfl⟩
  · refine step_of 6 _ 7 w (by unfold numStep; repeat (first | rw [if_pos (by omega)] | rw [if_neg (by omega)])) ?_
    go_enter Try.func30, Try.ntmps30
    go_wp2; go_ret; exact ⟨rfl, rfl⟩
  · refine step_of 6 _ (-1) w (by unfold numStep; repeat (first | rw [if_pos (by omega)] | rw [if_neg (by omega)])) ?_
    have f45 : (c == 45) = false := beq_eq_false_iff_ne.2 (by omega)
    have f48 : (c == 48) = false := beq_eq_false_iff_ne.2 (by omega)
    have f46 : (c == 46) = false := beq_eq_false_iff_ne.2 (by omega)
    have f101 : (c == 101) = false := beq_eq_false_iff_ne.2 (by omega)
    have f69 : (c == 69) = false := beq_eq_false_iff_ne.2 (by omega)
    have f43 : (c == 43) = false := beq_eq_false_iff_ne.2 (by omega)
    go_enter Try.func30, Try.ntmps30
    go_wp2; go_ret; exact ⟨rfl, rfl⟩
  · refine step_of 6 _ (-1) w (by unfold numStep; repeat (first | rw [if_pos (by omega)] | rw [if_neg (by omega)])) ?_
    have f45 : (c == 45) = false := beq_eq_false_iff_ne.2 (by omega)
    have f48 : (c == 48) = false := beq_eq_false_iff_ne.2 (by omega)
    have f46 : (c == 46) = false := beq_eq_false_iff_ne.2 (by omega)
    have f101 : (c == 101) = false := beq_eq_false_iff_ne.2 (by omega)
    have f69 : (c == 69) = false := beq_eq_false_iff_ne.2 (by omega)
    have f43 : (c == 43) = false := beq_eq_false_iff_ne.2 (by omega)
    go_enter Try.func30, Try.ntmps30
    go_wp2; go_ret; exact ⟨rfl, rfl⟩

theorem numStep7 (c : Int) (w : World) (hc0 : 0 ≤ c) (hc1 : c ≤ 255) :
    Calls Try.prog 30 #[.int .i64 7, .int .u8 c] w fun e w' => e = .returned (.int .i64 (numStep 7 c)) ∧ w' = w := by
  rcases kinds c with rfl | rfl | ⟨h1, h2⟩ | rfl | rfl | rfl | rfl | ⟨h1, h2, h3, h4⟩ | ⟨h1, h2, h3⟩
  · refine step_of 7 _ (-1) w (by unfold numStep; repeat (first | rw [if_pos (by omega)] | rw [if_neg (by omega)])) ?_
    go_enter Try.func30, Try.ntmps30
    go_wp2; go_ret; exact ⟨rfl, rfl⟩
  · refine step_of 7 _ 8 w (by unfold numStep; repeat (first | rw [if_pos (by omega)] | rw [if_neg (by omega)])) ?_
    go_enter Try.func30, Try.ntmps30
    go_wp2; go_ret; exact ⟨rfl, rfl⟩
  · refine step_of 7 _ 8 w (by unfold numStep; repeat (first | rw [if_pos (by omega)] | rw [if_neg (by omega)])) ?_
    have f45 : (c == 45) = false := beq_eq_false_iff_ne.2 (by omega)
    have f48 : (c == 48) = false := beq_eq_false_iff_ne.2 (by omega)
    have f46 : (c == 46) = false := beq_eq_false_iff_ne.2 (by omega)
    have f101 : (c == 101) = false := beq_eq_false_iff_ne.2 (by omega)
    have f69 : (c == 69) = false := beq_eq_false_iff_ne.2 (by omega)
    have f43 : (c == 43) = false := beq_eq_false_iff_ne.2 (by omega)
    go_enter Try.func30, Try.ntmps30
    go_wp2; go_ret; exact ⟨rfl, rfl⟩
  · refine step_of 7 _ (-1) w (by unfold numStep; repeat (first | rw [if_pos (by omega)] | rw [if_neg (by omega)])) ?_
    go_enter Try.func30, Try.ntmps30
    go_wp2; go_ret; exact ⟨rfl, rfl⟩
  · refine step_of 7 _ (-1) w (by unfold numStep; repeat (first | rw [if_pos (by omega)] | rw [if_neg (by omega)])) ?_
    go_enter Try.func30, Try.ntmps30
    go_wp2; go_ret; exact ⟨rfl, rfl⟩
  · refine step_of 7 _ (-1) w (by unfold numStep; repeat (first | rw [if_pos (by omega)] | rw [if_neg (by omega)])) ?_
    go_enter Try.func30, Try.ntmps30
    go_wp2; go_ret; exact ⟨rfl, rfl⟩
  · refine step_of 7 _ (-1) w (by unfold numStep; repeat (first | rw [if_pos (by omega)] | rw [if_neg (by omega)])) ?_
    go_enter Try.func30, Try.ntmps30
    go_wp2; go_ret; exact ⟨rfl, rfl⟩
  · refine step_of 7 _ (-1) w (by unfold numStep; repeat (first | rw [if_pos (by omega)] | rw [if_neg (by omega)])) ?_
    have f45 : (c == 45) = false := beq_eq_false_iff_ne.2 (by omega)
    have f48 : (c == 48) = false := beq_eq_false_iff_ne.2 (by omega)
    have f46 : (c == 46) = false := beq_eq_false_iff_ne.2 (by omega)
    have f101 : (c == 101) = false := beq_eq_false_iff_ne.2 (by omega)
    have f69 : (c == 69) = false := beq_eq_false_iff_ne.2 (by omega)
    have f43 : (c == 43) = false := beq_eq_false_iff_ne.2 (by omega)
    go_enter Try.func30, Try.ntmps30
    go_wp2; go_ret; exact ⟨rfl, rfl⟩
  · refine step_of 7 _ (-1) w (by unfold numStep; repeat (first | rw [if_pos (by omega)] | rw [if_neg (by omega)])) ?_
    have f45 : (c == 45) = false := beq_eq_false_iff_ne.2 (by omega)
    have f48 : (c == 48) = false := beq_eq_false_iff_ne.2 (by omega)
    have f46 : (c == 46) = false := beq_eq_false_iff_ne.2 (by omega)
    have f101 : (c == 101) = false := beq_eq_false_iff_ne.2 (by omega)
    have f69 : (c == 69) = false := beq_eq_false_iff_ne.2 (by omega)
    have f43 : (c == 43) = false := beq_eq_false_iff_ne.2 (by omega)
    go_enter Try.func30, Try.ntmps30
    go_wp2; go_ret; exact ⟨rfl, rfl⟩

theorem numStep8 (c : Int) (w : World) (hc0 : 0 ≤ c) (hc1 : c ≤ 255) :
    Calls Try.prog 30 #[.int .i64 8, .int .u8 c] w fun e w' => e = .returned (.int .i64 (numStep 8 c)) ∧ w' = w := by
  rcases kinds c with rfl | rfl | ⟨h1, h2⟩ | rfl | rfl | rfl | rfl | ⟨h1, h2, h3, h4⟩ | ⟨h1, h2, h3⟩
  · refine step_of 8 _ (-1) w (by unfold numStep; repeat (first | rw [if_pos (by omega)] | rw [if_neg (by omega)])) ?_
    go_enter Try.func30, Try.ntmps30
    go_wp2; go_ret; exact ⟨rfl, rfl⟩
  · refine step_of 8 _ 8 w (by unfold numStep; repeat (first | rw [if_pos (by omega)] | rw [if_neg (by omega)])) ?_
    go_enter Try.func30, Try.ntmps30
    go_wp2; go_ret; exact ⟨rfl, rfl⟩
  · refine step_of 8 _ 8 w (by unfold numStep; repeat (first | rw [if_pos (by omega)] | rw [if_neg (by omega)])) ?_
    have f45 : (c == 45) = false := beq_eq_false_iff_ne.2 (by omega)
    have f48 : (c == 48) = false := beq_eq_false_iff_ne.2 (by omega)
    have f46 : (c == 46) = false := beq_eq_false_iff_ne.2 (by omega)
    have f101 : (c == 101) = false := beq_eq_false_iff_ne.2 (by omega)
    have f69 : (c == 69) = false := beq_eq_false_iff_ne.2 (by omega)
    have f43 : (c == 43) = false := beq_eq_false_iff_ne.2 (by omega)
    go_enter Try.func30, Try.ntmps30
    go_wp2; go_ret; exact ⟨rfl, rfl⟩
  · refine step_of 8 _ (-1) w (by unfold numStep; repeat (first | rw [if_pos (by omega)] | rw [if_neg (by omega)])) ?_
    go_enter Try.func30, Try.ntmps30
    go_wp2; go_ret; exact ⟨rfl, rfl⟩
  · refine step_of 8 _ (-1) w (by unfold numStep; repeat (first | rw [if_pos (by omega)] | rw [if_neg (by omega)])) ?_
    go_enter Try.func30, Try.ntmps30
    go_wp2; go_ret; exact ⟨rfl, rfl⟩
  · refine step_of 8 _ (-1) w (by unfold numStep; repeat (first | rw [if_pos (by omega)] | rw [if_neg (by omega)])) ?_
    go_enter Try.func30, Try.ntmps30
    go_wp2; go_ret; exact ⟨rfl, rfl⟩
  · refine step_of 8 _ (-1) w (by unfold numStep; repeat (first | rw [if_pos (by omega)] | rw [if_neg (by omega)])) ?_
    go_enter Try.func30, Try.ntmps30
    go_wp2; go_ret; exact ⟨rfl, rfl⟩
  · refine step_of 8 _ (-1) w (by unfold numStep; repeat (first | rw [if_pos (by omega)] | rw [if_neg (by omega)])) ?_
    have f45 : (c == 45) = false := beq_eq_false_iff_ne.2 (by omega)
    have f48 : (c == 48) = false := beq_eq_false_iff_ne.2 (by omega)
    have f46 : (c == 46) = false := beq_eq_false_iff_ne.2 (by omega)
    have f101 : (c == 101) = false := beq_eq_false_iff_ne.2 (by omega)
    have f69 : (c == 69) = false := beq_eq_false_iff_ne.2 (by omega)
    have f43 : (c == 43) = false := beq_eq_false_iff_ne.2 (by omega)
    go_enter Try.func30, Try.ntmps30
    go_wp2; go_ret; exact ⟨rfl, rfl⟩
  · refine step_of 8 _ (-1) w (by unfold numStep; repeat (first | rw [if_pos (by omega)] | rw [if_neg (by omega)])) ?_
    have f45 : (c == 45) = false := beq_eq_false_iff_ne.2 (by omega)
    have f48 : (c == 48) = false := beq_eq_false_iff_ne.2 (by omega)
    have f46 : (c == 46) = false := beq_eq_false_iff_ne.2 (by omega)
    have f101 : (c == 101) = false := beq_eq_false_iff_ne.2 (by omega)
    have f69 : (c == 69) = false := beq_eq_false_iff_ne.2 (by omega)
    have f43 : (c == 43) = false := beq_eq_false_iff_ne.2 (by omega)
    go_enter Try.func30, Try.ntmps30
    go_wp2; go_ret; exact ⟨rfl, rfl⟩

theorem numStep_any (q c : Int) (w : World) (h0 : 0 ≤ q) (h8 : q ≤ 8) (hc0 : 0 ≤ c) (hc1 : c ≤ 255) :
    Calls Try.prog 30 #[.int .i64 q, .int .u8 c] w fun e w' => e = .returned (.int .i64 (numStep q c)) ∧ w' = w := by
  have hq : q = 0 ∨ q = 1 ∨ q = 2 ∨ q = 3 ∨ q = 4 ∨ q = 5 ∨ q = 6 ∨ q = 7 ∨ q = 8 := by omega
  clear h0 h8
  rcases hq with rfl | rfl | rfl | rfl | rfl | rfl | rfl | rfl | rfl
  · exact numStep0 c w hc0 hc1
  · exact numStep1 c w hc0 hc1
  · exact numStep2 c w hc0 hc1
  · exact numStep3 c w hc0 hc1
  · exact numStep4 c w hc0 hc1
  · exact numStep5 c w hc0 hc1
  · exact numStep6 c w hc0 hc1
  · exact numStep7 c w hc0 hc1
  · exact numStep8 c w hc0 hc1
end Go.Proofs.Qxb6603095a.Wn
