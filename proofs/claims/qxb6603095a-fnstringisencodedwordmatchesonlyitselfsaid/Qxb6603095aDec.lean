import Derived.Test.Qxb6603095aSis
import Derived.Laws.CopyOwn
namespace Go.Proofs.Qxb6603095a.Wk
open Go.RowKit
open Go.Proofs.Qxb6603095a.Pl
set_option linter.unusedVariables false

theorem info3 : (Try.prog.info? 3).map (fun i => (i.zero, i.size, i.bytes)) = some (some (.int .i64 0), 1, 8) := by kernel_rfl
theorem info5 : (Try.prog.info? 5).map (fun i => (i.zero, i.size, i.bytes)) = some (some (.int .u8 0), 1, 1) := by kernel_rfl

/-- one number more at the end of an owned row -/
theorem more_int {k : IntKind} {E : TypeId} {B g cap : Nat} {w wr w1 : World} {us : List Int} {u : Int} (o : Obj) (hnx : Below B w wr) (hBg : B ≤ g)
    (hown1 : w1.ownsRow B E 1 (.slice (some ⟨g, 0, none⟩) (us.length + 1) cap) (us.length + 1) (us.map (Value.int k) ++ [.int k u])) (hgrow1 : (wr.alloc o).grownBy w1 (some g)) (hB : B ≤ wr.heap.size) :
    w1.ownsRow B E 1 (.slice (some ⟨g, 0, none⟩) (us ++ [u]).length cap) (us ++ [u]).length ((us ++ [u]).map (Value.int k)) ∧ Below B w w1 := by
  constructor
  · simpa using hown1
  · exact (hnx.alloc hB o).grown hgrow1 (by simp; omega) (fun k hk => by cases hk; exact hBg)

theorem hidIt {p : Prop} (h : p) : Hid p := h

theorem hexTo_4095 (X : List Int) (k : Nat) (hk : k < 4) (h : ∀ j, j < k → 0 ≤ hexVal (X[j]?.getD 0)) : 0 ≤ hexTo X k ∧ hexTo X k ≤ 4095 := by
  have hb := hexTo_bd X k h
  have : (16 : Int) ^ k ≤ 16 ^ 3 := by
    match k, hk with
    | 0, _ => decide
    | 1, _ => decide
    | 2, _ => decide
    | 3, _ => decide
  omega

theorem shortOf_pairs (y u : Int) (h : shortOf y = some u) : (y = 34 ∧ u = 34) ∨ (y = 92 ∧ u = 92) ∨ (y = 47 ∧ u = 47) ∨ (y = 98 ∧ u = 8) ∨ (y = 102 ∧ u = 12) ∨ (y = 110 ∧ u = 10) ∨ (y = 114 ∧ u = 13) ∨ (y = 116 ∧ u = 9) := by
  unfold shortOf at h
  repeat' split at h
  all_goals first | (simp at h; done) | (simp at h; omega)
theorem shortOf_none (y : Int) (h : shortOf y = none) : y ≠ 34 ∧ y ≠ 92 ∧ y ≠ 47 ∧ y ≠ 98 ∧ y ≠ 102 ∧ y ≠ 110 ∧ y ≠ 114 ∧ y ≠ 116 := by
  unfold shortOf at h
  repeat' split at h
  all_goals first | (simp at h; done) | omega

set_option maxRecDepth 100000 in
set_option maxHeartbeats 2000000 in
theorem decode_any (b off n c : Nat) (Z : List Int) (w : World) (hn : Z.length = n) (hnc : n ≤ c) (hc : c ≤ maxLen) (hN : n ≤ 1048576) (hb : b < w.heap.size) (h255 : ∀ i : Nat, 0 ≤ Z[i]?.getD 0 ∧ Z[i]?.getD 0 ≤ 255)
    (hcell : ∀ i, i < Z.length → w.cell? ⟨b, off + i, none⟩ = some (.int .u8 (Z[i]?.getD 0))) :
    Calls Try.prog 25 #[.slice (some ⟨b, off, none⟩) n c] w fun e w' =>
      (e = .returned (.tuple #[.slice none 0 0, .bool false]) ∧ Below w.heap.size w w') ∨
      (∃ us : List Int, dec n Z = some us ∧ e = .returned (.tuple #[.slice (some ⟨w.heap.size, 0, none⟩) us.length n, .bool true]) ∧
        w'.ownsRow w.heap.size 3 1 (.slice (some ⟨w.heap.size, 0, none⟩) us.length n) us.length (us.map (Value.int .i64)) ∧ Below w.heap.size w w') := by
  subst hn
  unfold maxLen at hc
  have HC : Hid (∀ i, i < Z.length → w.cell? ⟨b, off + i, none⟩ = some (.int .u8 (Z[i]?.getD 0))) := hcell
  have H255 : Hid (∀ i : Nat, 0 ≤ Z[i]?.getD 0 ∧ Z[i]?.getD 0 ≤ 255) := h255
  clear hcell h255
  generalize hB : w.heap.size = B at *
  have HB : Hid (w.heap.size = B) := hB
  obtain ⟨i0, hi, hz0, hz1, hz2⟩ := info_parts info3
  go_enter Try.func25, Try.ntmps25
  go_wp2_with (at_make; refine wpList_make_own _ rfl _ _ 40 rfl B 3 i0 (.int .i64 0) 1 Try.underlying40 hi hz0 hz1 _ _ _ Z.length rfl rfl (by omega) ?b2 ?b3 (by omega) ?_)
  case b2 => rw [hz2]; omega
  case b3 => unfold maxLen; omega
  intro w0 hown0 hgrow0
  clear hB
  go_wp2
  go_loopw [4, 5] (fun v i wr => ∃ (p f : Nat) (us : List Int), p ≤ Z.length ∧ us.length ≤ p ∧ i = .int .i64 p ∧ v = .slice (some ⟨B, 0, none⟩) us.length Z.length ∧
      wr.ownsRow B 3 1 (.slice (some ⟨B, 0, none⟩) us.length Z.length) us.length (us.map (Value.int .i64)) ∧ Hid (dec Z.length Z = (dec f (Z.drop p)).map (us ++ ·) ∧ Z.length ≤ p + f) ∧ Below B w wr)
    (fun _ i _ => Z.length - (intOf i).toNat)
  case atStart => exact ⟨0, Z.length, [], Nat.zero_le _, Nat.zero_le _, rfl, rfl, hown0, ⟨by simp, by simp⟩, (Below.refl _ _).grown hgrow0 (by have := HB.out; omega) (fun k h => by cases h)⟩
  case round =>
    obtain ⟨p, f, us, hp, hup, rfl, rfl, hown, HI, hnx⟩ := hrel
    have hBr : B ≤ wr.heap.size := by have := hnx.size; have := HB.out; omega
    by_cases hlt : p < Z.length
    · have g0 : wr.cell? ⟨b, off + p, none⟩ = some (.int .u8 (Z[p]?.getD 0)) := (hnx.cell (by exact hb)).trans (HC.out p hlt)
      have b0 := H255.out p
      by_cases hx : Z[p]?.getD 0 = 92
      · rw [hx] at g0
        clear b0
        by_cases h1 : p + 1 < Z.length
        · have g1 : wr.cell? ⟨b, off + (p + 1), none⟩ = some (.int .u8 (Z[p + 1]?.getD 0)) := (hnx.cell (by exact hb)).trans (HC.out (p + 1) h1)
          by_cases hy : Z[p + 1]?.getD 0 = 117
          · -- a u-escape
            have HX : Hid (Z[p]?.getD 0 = 92 ∧ Z[p + 1]?.getD 0 = 117) := ⟨hx, hy⟩
            rw [hy] at g1
            clear hx hy
            by_cases h6 : p + 6 ≤ Z.length
            · go_wp2
              go_loop [8, 9] (fun v k => ∃ j : Nat, j ≤ 4 ∧ k = .int .i64 ((p : Int) + 2 + (j : Int)) ∧ v = .int .i64 (hexTo (Z.drop (p + 2)) j) ∧ Hid (∀ i, i < j → 0 ≤ hexVal ((Z.drop (p + 2))[i]?.getD 0))) (fun _ k => (p + 6) - (intOf k).toNat)
              case atStart => exact ⟨0, by omega, by go_num, rfl, fun i hi => absurd hi (by omega)⟩
              case round =>
                obtain ⟨j, hj, rfl, rfl, HV⟩ := hrel
                by_cases hj4 : j < 4
                · have g2 : wr.cell? ⟨b, off + (p + 2 + j), none⟩ = some (.int .u8 (Z[p + 2 + j]?.getD 0)) := (hnx.cell (by exact hb)).trans (HC.out (p + 2 + j) (by omega))
                  obtain ⟨b1, b2⟩ := H255.out (p + 2 + j)
                  obtain ⟨b3, b4⟩ := hexTo_4095 (Z.drop (p + 2)) j hj4 HV.out
                  have HE : Hid ((Z.drop (p + 2))[j]?.getD 0 = Z[p + 2 + j]?.getD 0) := by show _ = _; rw [List.getElem?_drop]
                  have HT : Hid (hexTo (Z.drop (p + 2)) (j + 1) = hexTo (Z.drop (p + 2)) j * 16 + hexVal (Z[p + 2 + j]?.getD 0)) := by
                    show _ = _
                    rw [← HE.out]; rfl
                  generalize Z[p + 2 + j]?.getD 0 = x at *
                  generalize hexTo (Z.drop (p + 2)) j = v at *
                  obtain ⟨b5, b6⟩ := hexVal_le x
                  have hcon := hexVal_any x b1 b2
                  have HN := hidIt hcon
                  clear hcon
                  by_cases hneg : hexVal x < 0
                  · generalize hexVal x = hv at *
                    go_wp2_with (go_at_call 35; refine (HN.out _).mono ?_; rintro e w' ⟨rfl, rfl⟩)
                    go_ret2
                    exact .inl ⟨rfl, hnx⟩
                  · have HV' : Hid (∀ i, i < j + 1 → 0 ≤ hexVal ((Z.drop (p + 2))[i]?.getD 0)) := by
                      intro i hi
                      by_cases e : i = j
                      · subst e; rw [HE.out]; omega
                      · exact HV.out i (by omega)
                    generalize hexVal x = hv at *
                    go_wp2_with (go_at_call 35; refine (HN.out _).mono ?_; rintro e w' ⟨rfl, rfl⟩)
                    go_round
                    case rel => exact ⟨j + 1, by omega, by go_num, by rw [HT.out], HV'⟩
                    case measure => simp [intOf]; omega
                · obtain rfl : j = 4 := by omega
                  have hs := step_hex Z p h6 HX.out.1 HX.out.2 HV.out
                  obtain ⟨f', hd', hf'⟩ := dec_on _ Z p f us _ 6 HI.out.1 hlt HI.out.2 hs (by omega)
                  clear hs HV HX
                  generalize hexTo (Z.drop (p + 2)) 4 = v at *
                  have HI' : Hid (dec Z.length Z = (dec f' (Z.drop (p + 6))).map ((us ++ [v]) ++ ·) ∧ Z.length ≤ p + 6 + f') := ⟨hd', hf'⟩
                  clear HI hd' hf' HC H255
                  go_wp2_with (at_builtin; refine wpList_append_fits _ rfl (.tmp 83) (.tmp 85) 40 rfl B 3 i0 1 Try.underlying40 hi hz1 B us.length Z.length _ rfl (hown.alloc _) ⟨wr.heap.size, 0, none⟩ 1 1 [.int .i64 v] rfl rfl (by intro t u ht; match t, ht with | 0, ht => simp at ht; subst ht; simp [Addr.add]) (by intro u hu; simp at hu; subst hu; rfl) (by omega) ?_; intro w1 hown1 hgrow1)
                  have R := more_int _ hnx (Nat.le_refl _) hown1 hgrow1 hBr
                  go_roundw
                  case rel => exact ⟨p + 6, f', us ++ [v], by omega, by simp; omega, by go_num, by simp, R.1, HI', R.2⟩
                  case measure => simp [intOf]; omega
            · go_wp2
              go_ret2
              exact .inl ⟨rfl, hnx⟩
          · cases hu : shortOf (Z[p + 1]?.getD 0) with
            | some u =>
              have HS : Hid (stepL (Z.drop p) = some (u, 2)) := step_short Z p u h1 hx hy hu
              clear hx hy
              have hyu := shortOf_pairs _ _ hu
              clear hu
              generalize Z[p + 1]?.getD 0 = y at *
              obtain ⟨f', hd', hf'⟩ := dec_on _ Z p f us u 2 HI.out.1 hlt HI.out.2 HS.out (by omega)
              have HI' : Hid (dec Z.length Z = (dec f' (Z.drop (p + 2))).map ((us ++ [u]) ++ ·) ∧ Z.length ≤ p + 2 + f') := ⟨hd', hf'⟩
              clear HI HS hd' hf' HC H255
              rcases hyu with ⟨rfl, hu⟩ | ⟨rfl, hu⟩ | ⟨rfl, hu⟩ | ⟨rfl, hu⟩ | ⟨rfl, hu⟩ | ⟨rfl, hu⟩ | ⟨rfl, hu⟩ | ⟨rfl, hu⟩
              all_goals
                have HU := hidIt hu
                clear hu
                go_wp2_with (at_builtin; refine wpList_append_fits _ rfl (.tmp 89) (.tmp 91) 40 rfl B 3 i0 1 Try.underlying40 hi hz1 B us.length Z.length _ rfl (hown.alloc _) ⟨wr.heap.size, 0, none⟩ 1 1 [.int .i64 u] rfl rfl (by intro t v ht; match t, ht with | 0, ht => simp at ht; subst ht; simp [Addr.add, HU.out]) (by intro u hu; simp at hu; subst hu; rfl) (by omega) ?_; intro w1 hown1 hgrow1)
                have R := more_int _ hnx (Nat.le_refl _) hown1 hgrow1 hBr
                go_roundw
                case rel => exact ⟨p + 2, f', us ++ [u], by omega, by simp; omega, by go_num, by simp, R.1, HI', R.2⟩
                case measure => simp [intOf]; omega
            | none =>
              have hne := shortOf_none _ hu
              clear hu hx
              generalize Z[p + 1]?.getD 0 = y at *
              obtain ⟨n1, n2, n3, n4, n5, n6, n7, n8⟩ := hne
              clear HI HC H255
              go_wp2
              go_ret2
              exact .inl ⟨rfl, hnx⟩
        · clear hx HI HC H255
          go_wp2
          go_ret2
          exact .inl ⟨rfl, hnx⟩
      · -- a byte that stands for itself
        have HS : Hid (stepL (Z.drop p) = some (Z[p]?.getD 0, 1)) := step_self Z p hlt hx
        generalize Z[p]?.getD 0 = x at *
        obtain ⟨f', hd', hf'⟩ := dec_on _ Z p f us x 1 HI.out.1 hlt HI.out.2 HS.out (by omega)
        have HI' : Hid (dec Z.length Z = (dec f' (Z.drop (p + 1))).map ((us ++ [x]) ++ ·) ∧ Z.length ≤ p + 1 + f') := ⟨hd', hf'⟩
        clear HI HS hd' hf' HC H255
        go_wp2_with (at_builtin; refine wpList_append_fits _ rfl (.tmp 24) (.tmp 27) 40 rfl B 3 i0 1 Try.underlying40 hi hz1 B us.length Z.length _ rfl (hown.alloc _) ⟨wr.heap.size, 0, none⟩ 1 1 [.int .i64 x] rfl rfl (by intro t u ht; match t, ht with | 0, ht => simp at ht; subst ht; simp [Addr.add]) (by intro u hu; simp at hu; subst hu; rfl) (by omega) ?_; intro w1 hown1 hgrow1)
        have R := more_int _ hnx (Nat.le_refl _) hown1 hgrow1 hBr
        go_roundw
        case rel => exact ⟨p + 1, f', us ++ [x], by omega, by simp; omega, by go_num, by simp, R.1, HI', R.2⟩
        case measure => simp [intOf]; omega
    · have HF : Hid (dec Z.length Z = some us) := dec_done _ Z p f us HI.out.1 (by omega)
      clear HI HC H255
      go_wp2
      go_ret2
      exact .inr ⟨us, HF.out, rfl, hown, hnx⟩
end Go.Proofs.Qxb6603095a.Wk
