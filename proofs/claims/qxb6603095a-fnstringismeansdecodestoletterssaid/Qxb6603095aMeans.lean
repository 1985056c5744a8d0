import Derived.Test.Qxb6603095aDec
namespace Go.Proofs.Qxb6603095a.Wk
open Go.RowKit
open Go.Proofs.Qxb6603095a.Pl
set_option linter.unusedVariables false

/-- the short ways: too long, too short, or not letters alone -/
theorem means_short (a : Option Addr) (n c : Nat) (s : ByteArray) (w : World) (hn : n ≤ maxLen) (hs : s.size ≤ maxLen)
    (h : ¬ (n + s.size ≤ 1048576) ∨ n < 2 ∨ lettersB s.data.toList = false) :
    Calls Try.prog 7 #[.slice a n c, .string s] w fun e w' => e = .returned (.bool true) ∧ w' = w := by
  have hb := bytes23 a n c s hn hs w
  have ha := allLetters_any s hs w
  unfold maxLen at hn hs
  by_cases h1 : n + s.size ≤ 1048576
  · rw [decide_eq_true h1] at hb
    have HB := hidIt hb
    have HA := hidIt ha
    clear hb ha
    by_cases h2 : n < 2
    · clear h
      go_enter Try.func7, Try.ntmps7
      go_wp2_with (first | (go_at_call 23; refine HB.out.mono ?_; rintro e w' ⟨rfl, rfl⟩))
      go_ret
      exact ⟨rfl, rfl⟩
    · have h3 : lettersB s.data.toList = false := by rcases h with h | h | h; exact absurd h1 h; exact absurd h h2; exact h
      clear h
      generalize lettersB s.data.toList = lb at *
      subst h3
      go_enter Try.func7, Try.ntmps7
      go_wp2_with (first | (go_at_call 23; refine HB.out.mono ?_; rintro e w' ⟨rfl, rfl⟩) | (go_at_call 24; refine HA.out.mono ?_; rintro e w' ⟨rfl, rfl⟩))
      go_ret
      exact ⟨rfl, rfl⟩
  · rw [decide_eq_false h1] at hb
    have HB := hidIt hb
    clear hb ha h
    go_enter Try.func7, Try.ntmps7
    go_wp2_with (first | (go_at_call 23; refine HB.out.mono ?_; rintro e w' ⟨rfl, rfl⟩))
    go_ret
    exact ⟨rfl, rfl⟩

theorem size5 : (Try.prog.info? 5).map (·.size) = some 1 := by kernel_rfl

theorem own_block {w : World} {B E g n : Nat} {xs : List Value} (h : w.ownsRow B E 1 (.slice (some ⟨g, 0, none⟩) n n) n xs) :
    ∃ cur : List Value, cur.length = n ∧ Hid (w.heap[g]? = some (.cells cur.toArray E (0, 0))) := by
  obtain ⟨_, h | ⟨g', cap, cur, hv, _, hh, _, _, hs, _⟩⟩ := h
  · simp at h
  · simp at hv
    obtain ⟨rfl, rfl⟩ := hv
    exact ⟨cur.toList, by simpa using hs, by show _ = _; simpa using hh⟩

/-- the cells to be copied, as 'copy' asks for them -/
theorem src_cells {k : IntKind} {w : World} {b off n : Nat} {zs : List Int} (hzs : zs.length = n) (hcell : ∀ i, i < n → w.cell? ⟨b, off + i, none⟩ = some (.int k (zs[i]?.getD 0))) :
    ∀ j v, (zs.map (Value.int k))[j]? = some v → w.cell? ((⟨b, off, none⟩ : Addr).add j) = some v := by
  intro j v hv
  rw [List.getElem?_map] at hv
  cases hz : zs[j]? with
  | none => rw [hz] at hv; simp at hv
  | some z =>
    have hj : j < zs.length := by
      rw [List.getElem?_eq_some_iff] at hz; exact hz.1
    rw [hz] at hv
    have := hcell j (by omega)
    rw [hz] at this
    simp at hv
    subst hv
    rw [Go.WideShapes.add_plain]
    simpa using this

/-- 'copy(zzc, text)', zzc made a moment ago, as long as text -/
theorem copy_whole {w w1 : World} (b off n c B : Nat) (zs : List Int) (cur : List Value) (hzs : zs.length = n) (hcur : cur.length = n) (hg : w1.heap[B]? = some (.cells cur.toArray 5 (0, 0)))
    (hsrc : ∀ j v, (zs.map (Value.int .u8))[j]? = some v → w1.cell? ((⟨b, off, none⟩ : Addr).add j) = some v) (hbel : Below B w w1) :
    ∃ w2, (Builtin.copy_ #[22, 22] 3 #[.slice (some ⟨B, 0, none⟩) n n, .slice (some ⟨b, off, none⟩) n c]).run Try.prog w1 = .ok (goInt n) w2 ∧
      Hid (w2.heap[B]? = some (.cells (zs.map (Value.int .u8)).toArray 5 (0, 0))) ∧ Below B w w2 := by
  have h := run_copy_row (P := Try.prog) w1 22 22 3 5 B 0 n n ⟨b, off, none⟩ n c cur.toArray 5 (zs.map (Value.int .u8)) Try.underlying22 size5 hg (by simp [hzs]) hsrc (by simp [hzs, hcur]) (ints_oneCell _ _)
  simp only [List.take_zero, List.nil_append, List.length_map, hzs, Nat.zero_add] at h
  rw [List.drop_of_length_le (by simp [hcur]), List.append_nil] at h
  refine ⟨_, h, ?_, below_setRow hbel (Nat.le_refl _) _⟩
  show _ = _
  simpa using setRow_heap w1 B _ _ 5 _ hg

/-- what lies in a block that is known whole -/
theorem block_cell {w : World} {g E : Nat} {zs : List Int} {k : IntKind} (h : w.heap[g]? = some (.cells (zs.map (Value.int k)).toArray E (0, 0))) (i : Nat) (hi : i < zs.length) :
    w.cell? ⟨g, i, none⟩ = some (.int k (zs[i]?.getD 0)) := by
  simp [World.cell?, h, hi]

theorem Drawn.below {w wr : World} (h : Drawn w wr) (B : Nat) : Below B w wr := by
  obtain ⟨m, rfl⟩ := h; exact below_drewN (Below.refl _ _) m

/-- what lies between the quotes -/
def inner (zs : List Int) : List Int := (zs.drop 1).take (zs.length - 2)
theorem inner_length (zs : List Int) (h : 2 ≤ zs.length) : (inner zs).length + 2 = zs.length := by simp [inner]; omega
theorem inner_get (zs : List Int) (i : Nat) (h : i < (inner zs).length) : (inner zs)[i]?.getD 0 = zs[1 + i]?.getD 0 := by
  have h' : i < zs.length - 2 := by simp [inner] at h; omega
  unfold inner
  rw [List.getElem?_take_of_lt h', List.getElem?_drop]
theorem inner_bd (zs : List Int) (hz : ∀ i : Nat, 0 ≤ zs[i]?.getD 0 ∧ zs[i]?.getD 0 ≤ 255) (i : Nat) : 0 ≤ (inner zs)[i]?.getD 0 ∧ (inner zs)[i]?.getD 0 ≤ 255 := by
  by_cases h : i < (inner zs).length
  · rw [inner_get zs i h]; exact hz _
  · rw [List.getElem?_eq_none (by omega)]; simp

def WantRel (us : List Int) (s : ByteArray) (k : Nat) (wt : Bool) : Prop :=
  (wt = true → us.length = s.size ∧ ∀ j, j < k → us[j]?.getD 0 = (numsOf s)[j]?.getD 0) ∧ (wt = false → us ≠ numsOf s)

/-- two lists of numbers, held against one another place by place -/
theorem eq_of_places (us L : List Int) (hl : us.length = L.length) (h : ∀ j, j < us.length → us[j]?.getD 0 = L[j]?.getD 0) : us = L := by
  apply List.ext_getElem hl
  intro i h1 h2
  have := h i h1
  rw [List.getElem?_eq_getElem h1, List.getElem?_eq_getElem h2] at this
  simpa using this

set_option maxRecDepth 100000 in
set_option maxHeartbeats 2000000 in
theorem means_main (b off n c : Nat) (zs : List Int) (s : ByteArray) (w : World) (hzs : zs.length = n) (h2 : 2 ≤ n) (hnc : n ≤ c) (hc : c ≤ maxLen) (hs : s.size ≤ maxLen)
    (h1 : n + s.size ≤ 1048576) (hL : lettersB s.data.toList = true) (hb : b < w.heap.size) (h255 : ∀ i : Nat, 0 ≤ zs[i]?.getD 0 ∧ zs[i]?.getD 0 ≤ 255)
    (hcell : ∀ i, i < n → w.cell? ⟨b, off + i, none⟩ = some (.int .u8 (zs[i]?.getD 0))) :
    Calls Try.prog 7 #[.slice (some ⟨b, off, none⟩) n c, .string s] w fun e w' => e = .returned (.bool true) ∧ Below w.heap.size w w' := by
  have hb23 := bytes23 (some ⟨b, off, none⟩) n c s (by omega) hs w
  have ha := allLetters_any s hs w
  unfold maxLen at hc hs
  rw [decide_eq_true h1] at hb23
  rw [hL] at ha
  have HB := hidIt hb23
  have HA := hidIt ha
  have HC := hidIt hcell
  have H255 := hidIt h255
  have HL := hidIt hL
  have HZ := hidIt hzs
  clear hb23 ha hcell h255 hL hzs
  have hneq := fun wx => run_neq_slice_nil_any (P := Try.prog) wx 22 5 (some ⟨b, off, none⟩) n c 0 0 Try.underlying22
  obtain ⟨i0, hi, hz0, hz1, hz2⟩ := info_parts info5
  generalize hBw : w.heap.size = B at *
  have HBw := hidIt hBw
  go_enter Try.func7, Try.ntmps7
  go_wp2_with (first
    | (go_at_call 23; refine HB.out.mono ?_; intro e w' h; obtain ⟨rfl, h⟩ := h; rw [h]; clear h w')
    | (go_at_call 24; refine HA.out.mono ?_; intro e w' h; obtain ⟨rfl, h⟩ := h; rw [h]; clear h w')
    | (at_make; refine wpList_make_full _ rfl _ _ 22 rfl B 5 i0 (.int .u8 0) 1 Try.underlying22 hi hz0 hz1 _ _ _ _ n rfl rfl rfl rfl (by rw [hz2]; omega) (by unfold maxLen; omega) (by omega) ?_; intro w1 hown1 hgrow1; rw [hBw] at hown1; have hbel1 : Below B w w1 := (Below.refl _ _).grown hgrow1 (by omega) (fun k h => by cases h); have HS1 := hidIt (src_cells HZ.out (fun i hi => (hbel1.cell (p := ⟨b, off + i, none⟩) (by exact hb)).trans (HC.out i hi))); obtain ⟨cur, hcur, hg1⟩ := own_block hown1; obtain ⟨w2, hcopy, hg2, hbel2⟩ := copy_whole b off n c B zs cur HZ.out hcur hg1.out HS1.out hbel1; clear hown1 hgrow1))
  have hlz := inner_length zs (by rw [HZ.out]; exact h2)
  rw [HZ.out] at hlz
  have hcz : ∀ i, i < (inner zs).length → w2.cell? ⟨B, 1 + i, none⟩ = some (.int .u8 ((inner zs)[i]?.getD 0)) := by
    intro i hi
    rw [inner_get zs i hi]
    exact block_cell hg2.out (1 + i) (by rw [HZ.out]; omega)
  have HCZ := hidIt hcz
  have hBs : B < w2.heap.size := by
    have := hg2.out
    rw [Array.getElem?_eq_some_iff] at this
    exact this.1
  have hd25 := decode_any B 1 (n - 1 - 1) (n - 1) (inner zs) w2 (by omega) (by omega) (by unfold maxLen; omega) (by omega) hBs (inner_bd zs H255.out) hcz
  clear hcz hcopy HB HA HC HS1 hg1 hcur hg2 hlz
  refine hd25.mono ?_
  clear hd25
  generalize hG : w2.heap.size = G at *
  have HG := hidIt hG
  clear hG
  rintro e w3 (⟨rfl, hb3⟩ | ⟨us, hdec, rfl, hown3, hb3⟩)
  · clear hz2
    go_wp2
    go_ret
    exact ⟨rfl, hbel2.trans (hb3.mono (by omega))⟩
  · have hul : us.length ≤ n - 1 - 1 := by
      obtain ⟨_, h | ⟨g', cap, cur', hv, _, _, hcap, _, _, _⟩⟩ := hown3
      · simp at h
      · simp at hv
        omega
    have HD := hidIt hdec
    have hu3 : ∀ j, j < us.length → w3.cell? ⟨G, j, none⟩ = some (.int .i64 (us[j]?.getD 0)) := by
      intro j hj
      rw [hown3.cellAt j (by omega), List.getElem?_map]
      simp [hj]
    have HU3 := hidIt hu3
    have hbel3 : Below B w w3 := hbel2.trans (hb3.mono (by omega))
    have HCZ3 : Hid (∀ i, i < (inner zs).length → w3.cell? ⟨B, 0 + 1 + i, none⟩ = some (.int .u8 ((inner zs)[i]?.getD 0))) := by
      intro i hi
      rw [hb3.cell (by exact hBs), Nat.zero_add]
      exact HCZ.out i hi
    clear hdec hu3 hown3 HCZ hb3 hbel2
    have hlz2 := inner_length zs (by rw [HZ.out]; exact h2)
    rw [HZ.out] at hlz2
    have HF : Hid (∀ wr, Drawn w3 wr → Calls Try.prog 26 #[.slice (some ⟨B, 0, none⟩) n n, .string s] wr fun e w' => e = .returned (.bool (decide (us = numsOf s))) ∧ Drawn wr w') := by
      intro wr hwr
      exact stringIs_any B 0 n n (inner zs) s us (n - 1 - 1) wr (by omega) (by omega) (by unfold maxLen; omega) (by unfold maxLen; omega) HL.out HD.out (fun i hi => (hwr.cell _).trans (HCZ3.out i hi))
    clear HCZ3 HD HL hlz2 H255 HZ hz0 hz1 hz2 hi
    go_wp2
    go_loopw [8, 9] (fun v i wr => ∃ (k : Nat) (wt : Bool), k ≤ us.length ∧ i = .int .i64 k ∧ v = .bool wt ∧ (wt = true → us.length ≤ s.size) ∧
        WantRel us s k wt ∧ Drawn w3 wr) (fun _ i _ => us.length - (intOf i).toNat)
    case atStart =>
      refine ⟨0, ((us.length : Int) == (s.size : Int)), Nat.zero_le _, rfl, rfl, ?_, ⟨?_, ?_⟩, Drawn.refl _⟩
      · intro h; rw [beq_iff_eq] at h; omega
      · intro h; rw [beq_iff_eq] at h; exact ⟨by omega, fun j hj => absurd hj (by omega)⟩
      · intro h e; rw [beq_eq_false_iff_ne] at h; apply h; rw [e, numsOf_length]
    case round =>
      obtain ⟨k, wt, hk, rfl, rfl, hle, HR, hdr⟩ := hrel
      cases wt with
      | false =>
        have HE : Hid (decide (us = numsOf s) = false) := decide_eq_false (HR.2 rfl)
        clear HR hle HU3
        go_wp2_with (go_at_call 26; refine (HF.out _ hdr).mono ?_; intro e w' h; obtain ⟨rfl, hdr2⟩ := h; rw [HE.out])
        go_ret
        exact ⟨rfl, hbel3.trans ((hdr.below _).trans (hdr2.below _))⟩
      | true =>
        have hle' := hle rfl
        clear hle
        by_cases hlt : k < us.length
        · have hks : k < s.size := by omega
          have g0 : wr.cell? ⟨G, k, none⟩ = some (.int .i64 (us[k]?.getD 0)) := by rw [hdr.cell]; exact HU3.out k hlt
          have hs1 : (0 : Int) ≤ (s[k].toNat : Int) := by omega
          have hs2 : (s[k].toNat : Int) ≤ 255 := by have := s[k].toNat_lt; omega
          have hn1 : (k : Int) < (us.length : Int) := by omega
          have hn2 : (k : Int) < (s.size : Int) := by omega
          by_cases e : us[k]?.getD 0 = (s[k].toNat : Int)
          · have e' : (us[k]?.getD 0 != (s[k].toNat : Int)) = false := by simp [e]
            have HR' : WantRel us s (k + 1) true := by
              refine ⟨fun _ => ⟨(HR.1 rfl).1, fun j hj => ?_⟩, fun h => by cases h⟩
              by_cases ej : j = k
              · subst ej; rw [e, numsOf_get s j hks]
              · exact (HR.1 rfl).2 j (by omega)
            clear HR e HF HU3
            generalize us[k]?.getD 0 = x at *
            go_wp2
            go_quiet (fail)
            go_wp2
            go_roundw
            case rel => exact ⟨k + 1, true, by omega, by go_num, rfl, (fun _ => hle'), HR', hdr.more _⟩
            case measure => simp [intOf]; omega
          · have e' : (us[k]?.getD 0 != (s[k].toNat : Int)) = true := by simp [e]
            have HR' : WantRel us s (k + 1) false := by
              refine ⟨(fun h => by cases h), fun _ h => e ?_⟩
              rw [h, numsOf_get s k hks]
            clear HR e HF HU3
            generalize us[k]?.getD 0 = x at *
            go_wp2
            go_quiet (fail)
            go_wp2
            go_roundw
            case rel => exact ⟨k + 1, false, by omega, by go_num, rfl, (fun h => by cases h), HR', hdr.more _⟩
            case measure => simp [intOf]; omega
        · have HE : Hid (decide (us = numsOf s) = true) := decide_eq_true (eq_of_places us _ (by rw [numsOf_length]; exact (HR.1 rfl).1) (fun j hj => (HR.1 rfl).2 j (by omega)))
          clear HR HU3
          go_wp2_with (go_at_call 26; refine (HF.out _ hdr).mono ?_; intro e w' h; obtain ⟨rfl, hdr2⟩ := h; rw [HE.out])
          go_ret
          exact ⟨rfl, hbel3.trans ((hdr.below _).trans (hdr2.below _))⟩
end Go.Proofs.Qxb6603095a.Wk
