import Derived.Test.Qxb6603095aDec
import Derived.Test.Qxb6603095aEncPl
namespace Go.Proofs.Qxb6603095a.Wk
open Go.RowKit
open Go.Proofs.Qxb6603095a.Pl
set_option linter.unusedVariables false

theorem hexDig_any (v : Int) (up : Bool) (w : World) (h0 : 0 ≤ v) (h1 : v ≤ 15) :
    Calls Try.prog 37 #[.int .i64 v, .bool up] w fun e w' => e = .returned (.int .u8 (hexDig v up)) ∧ w' = w := by
  unfold hexDig
  by_cases h : v < 10
  · rw [if_pos h]
    go_enter Try.func37, Try.ntmps37
    go_wp2
    go_ret
    exact ⟨ret_int (by omega), rfl⟩
  · rw [if_neg h]
    cases up
    · rw [if_neg (by decide)]
      go_enter Try.func37, Try.ntmps37
      go_wp2
      go_ret
      exact ⟨ret_int (by omega), rfl⟩
    · rw [if_pos rfl]
      go_enter Try.func37, Try.ntmps37
      go_wp2
      go_ret
      exact ⟨ret_int (by omega), rfl⟩

/-- a row that grows within its room -/
structure Grew (B g n cap : Nat) (xs ys : List Int) (w w' : World) : Prop where
  own : w'.ownsRow B 5 1 (.slice (some ⟨g, 0, none⟩) (n + ys.length) cap) (n + ys.length) ((xs ++ ys).map (Value.int .u8))
  bel : ∀ w0 B', Below B' w0 w → B' ≤ g → B' ≤ w.heap.size → Below B' w0 w'

set_option maxHeartbeats 1000000 in
theorem encode_any (B g n cap : Nat) (xs : List Int) (c m : Int) (w : World) (h0 : 0 ≤ c) (h1 : c ≤ 255) (hm0 : 0 ≤ m) (hm2 : m ≤ 2) (hfit : n + (enc c m).length ≤ cap)
    (hown : w.ownsRow B 5 1 (.slice (some ⟨g, 0, none⟩) n cap) n (xs.map (Value.int .u8))) :
    Calls Try.prog 28 #[.slice (some ⟨g, 0, none⟩) n cap, .int .u8 c, .int .i64 m] w fun e w' =>
      e = .returned (.slice (some ⟨g, 0, none⟩) (n + (enc c m).length) cap) ∧ Grew B g n cap xs (enc c m) w w' := by
  obtain ⟨i0, hi, hz0, hz1, hz2⟩ := info_parts info5
  by_cases hm : m = 0
  · have he : enc c m = [c] := by simp [enc, hm]
    rw [he] at hfit ⊢
    simp at hfit
    subst hm
    go_enter Try.func28, Try.ntmps28
    go_wp2_with (at_builtin; refine wpList_append_fits _ rfl (.tmp 10) (.tmp 12) 22 rfl B 5 i0 1 Try.underlying22 hi hz1 g n cap _ rfl (hown.alloc _) ⟨w.heap.size, 0, none⟩ 1 1 [.int .u8 c] rfl rfl (by intro t u ht; match t, ht with | 0, ht => simp at ht; subst ht; simp [Addr.add]) (by intro u hu; simp at hu; subst hu; rfl) (by omega) ?_; intro w1 hown1 hgrow1)
    go_ret
    refine ⟨rfl, ⟨by simpa using hown1, ?_⟩⟩
    intro w0 B' hb hg hs
    exact (hb.alloc hs _).grown hgrow1 (by simp; omega) (fun k hk => by cases hk; exact hg)
  · have he : enc c m = [92, 117, 48, 48, hexDig (c / 16) (m == 2), hexDig (c % 16) (m == 2)] := by simp [enc, hm]
    rw [he] at hfit ⊢
    simp at hfit
    have hd1 := fun wx => hexDig_any (c / 16) (m == 2) wx (by omega) (by omega)
    have hd2 := fun wx => hexDig_any (c % 16) (m == 2) wx (by omega) (by omega)
    generalize hexDig (c / 16) (m == 2) = x at *
    generalize hexDig (c % 16) (m == 2) = y at *
    have HD1 := hidIt hd1
    have HD2 := hidIt hd2
    clear hd1 hd2 he
    go_enter Try.func28, Try.ntmps28
    go_wp2_with fail
    refine (HD1.out _).mono ?_
    rintro e w' ⟨rfl, rfl⟩
    go_wp2_with fail
    refine (HD2.out _).mono ?_
    rintro e w'' ⟨rfl, rfl⟩
    go_wp2_with (at_builtin; refine wpList_append_fits _ rfl (.tmp 16) (.tmp 27) 22 rfl B 5 i0 1 Try.underlying22 hi hz1 g n cap _ rfl (hown.alloc _) ⟨w''.heap.size, 0, none⟩ 6 6 [.int .u8 92, .int .u8 117, .int .u8 48, .int .u8 48, .int .u8 x, .int .u8 y] rfl rfl (by intro t u ht; match t, ht with | 0, ht => simp at ht; subst ht; simp [Addr.add] | 1, ht => simp at ht; subst ht; simp [Addr.add] | 2, ht => simp at ht; subst ht; simp [Addr.add] | 3, ht => simp at ht; subst ht; simp [Addr.add] | 4, ht => simp at ht; subst ht; simp [Addr.add] | 5, ht => simp at ht; subst ht; simp [Addr.add]) (by intro u hu; simp at hu; rcases hu with rfl | rfl | rfl | rfl | rfl | rfl <;> rfl) (by omega) ?_; intro w1 hown1 hgrow1)
    go_ret
    refine ⟨rfl, ⟨by simpa using hown1, ?_⟩⟩
    intro w0 B' hb hg hs
    exact (hb.alloc hs _).grown hgrow1 (by simp; omega) (fun k hk => by cases hk; exact hg)

end Go.Proofs.Qxb6603095a.Wk
