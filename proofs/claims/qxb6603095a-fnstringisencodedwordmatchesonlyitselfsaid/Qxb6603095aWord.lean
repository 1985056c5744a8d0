import Derived.Test.Qxb6603095aEnc
namespace Go.Proofs.Qxb6603095a.Wk
open Go.RowKit
open Go.Proofs.Qxb6603095a.Pl
set_option linter.unusedVariables false

theorem bytes27 (s : ByteArray) (a : Option Addr) (n c : Nat) (o : ByteArray) (hn : n ≤ maxLen) (hs : s.size ≤ maxLen) (ho : o.size ≤ maxLen) (w : World) :
    Calls Try.prog 27 #[.string s, .slice a n c, .string o] w fun e w' => e = .returned (.bool (decide (s.size + n + o.size ≤ 1048576))) ∧ w' = w := by
  unfold maxLen at hn hs ho
  by_cases h : s.size + n + o.size ≤ 1048576
  · rw [decide_eq_true h]
    go_enter Try.func27, Try.ntmps27
    go_wp2
    go_ret
    exact ⟨rfl, rfl⟩
  · rw [decide_eq_false h]
    by_cases h1 : s.size ≤ 1048576 <;> by_cases h2 : n ≤ 1048576 <;> by_cases h3 : s.size + n ≤ 1048576 <;> by_cases h4 : o.size ≤ 1048576 <;>
    first
    | (exfalso; omega)
    | (go_enter Try.func27, Try.ntmps27
       go_wp2
       go_ret
       exact ⟨rfl, rfl⟩)

/-- the short ways -/
theorem word_short (s : ByteArray) (a : Option Addr) (n c : Nat) (o : ByteArray) (w : World) (hn : n ≤ maxLen) (hs : s.size ≤ maxLen) (ho : o.size ≤ maxLen)
    (h : ¬ (s.size + n + o.size ≤ 1048576) ∨ ¬ s.size ≤ 65536 ∨ ¬ n ≤ 65536 ∨ lettersB s.data.toList = false ∨ lettersB o.data.toList = false) :
    Calls Try.prog 8 #[.string s, .slice a n c, .string o] w fun e w' => e = .returned (.bool true) ∧ w' = w := by
  have hb := bytes27 s a n c o hn hs ho w
  have ha := allLetters_any s hs w
  have ha2 := allLetters_any o ho w
  unfold maxLen at hn hs ho
  by_cases h1 : s.size + n + o.size ≤ 1048576
  · rw [decide_eq_true h1] at hb
    have HB := hidIt hb
    clear hb
    by_cases h2 : s.size ≤ 65536
    · by_cases h3 : n ≤ 65536
      · cases h4 : lettersB s.data.toList with
        | false =>
          rw [h4] at ha
          have HA := hidIt ha
          clear h ha ha2 h4
          go_enter Try.func8, Try.ntmps8
          go_wp2_with (first | (go_at_call 27; refine HB.out.mono ?_; rintro e w' ⟨rfl, rfl⟩) | (go_at_call 24; refine HA.out.mono ?_; rintro e w' ⟨rfl, rfl⟩))
          go_ret
          exact ⟨rfl, rfl⟩
        | true =>
          have h5 : lettersB o.data.toList = false := by
            rcases h with h | h | h | h | h
            · exact absurd h1 h
            · exact absurd h2 h
            · exact absurd h3 h
            · rw [h4] at h; cases h
            · exact h
          rw [h4] at ha
          rw [h5] at ha2
          have HA := hidIt ha
          have HA2 := hidIt ha2
          clear h ha ha2 h4 h5
          go_enter Try.func8, Try.ntmps8
          go_wp2_with (first | (go_at_call 27; refine HB.out.mono ?_; intro e w' h; obtain ⟨rfl, h⟩ := h; rw [h]; clear h w'))
          refine HA.out.mono ?_
          intro e w' h; obtain ⟨rfl, h⟩ := h; rw [h]; clear h w'
          go_wp2_with fail
          refine HA2.out.mono ?_
          intro e w' h; obtain ⟨rfl, h⟩ := h; rw [h]; clear h w'
          go_wp2
          go_ret
          exact ⟨rfl, rfl⟩
      · clear h ha ha2
        go_enter Try.func8, Try.ntmps8
        go_wp2_with (first | (go_at_call 27; refine HB.out.mono ?_; rintro e w' ⟨rfl, rfl⟩))
        go_ret
        exact ⟨rfl, rfl⟩
    · clear h ha ha2
      go_enter Try.func8, Try.ntmps8
      go_wp2_with (first | (go_at_call 27; refine HB.out.mono ?_; rintro e w' ⟨rfl, rfl⟩))
      go_ret
      exact ⟨rfl, rfl⟩
  · rw [decide_eq_false h1] at hb
    have HB := hidIt hb
    clear hb ha h ha2
    go_enter Try.func8, Try.ntmps8
    go_wp2_with (first | (go_at_call 27; refine HB.out.mono ?_; rintro e w' ⟨rfl, rfl⟩))
    go_ret
    exact ⟨rfl, rfl⟩
end Go.Proofs.Qxb6603095a.Wk
