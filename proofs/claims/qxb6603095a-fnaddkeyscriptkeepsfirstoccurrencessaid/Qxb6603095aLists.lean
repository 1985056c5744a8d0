import Derived.Test.Qxb6603095aBase
import Derived.Test.Qxb6603095aSortPl
namespace Go.Proofs.Qxb6603095a.Wl
open Go.RowKit
open Go.Proofs.Qxb6603095a.Pl Go.Proofs.Qxb6603095a.Bs
set_option linter.unusedVariables false

/-! ### byte strings and lists of them, in memory below block B -/
def TextIn (w : World) (B : Nat) (a : Option Addr) (n : Nat) (Z : List Int) : Prop :=
  Z.length = n ∧ (∀ i : Nat, 0 ≤ Z[i]?.getD 0 ∧ Z[i]?.getD 0 ≤ 255) ∧
  (0 < n → ∃ b off, a = some ⟨b, off, none⟩ ∧ b < B ∧ ∀ i, i < n → w.cell? ⟨b, off + i, none⟩ = some (.int .u8 (Z[i]?.getD 0)))

def ListIn (w : World) (B : Nat) (a : Option Addr) (n : Nat) (A : List (List Int)) : Prop :=
  A.length = n ∧
  (0 < n → ∃ b off, a = some ⟨b, off, none⟩ ∧ b < B ∧ ∀ i, i < n → ∃ ai ni ci, w.cell? ⟨b, off + i, none⟩ = some (.slice ai ni ci) ∧ ni ≤ maxLen ∧ TextIn w B ai ni (A[i]?.getD []))

theorem TextIn.below {w w' : World} {B : Nat} {a : Option Addr} {n : Nat} {Z : List Int} (h : TextIn w B a n Z) (hb : Below B w w') : TextIn w' B a n Z := by
  obtain ⟨h1, h2, h3⟩ := h
  refine ⟨h1, h2, fun hp => ?_⟩
  obtain ⟨b, off, e, hbB, hc⟩ := h3 hp
  exact ⟨b, off, e, hbB, fun i hi => (hb.cell (by exact hbB)).trans (hc i hi)⟩
theorem TextIn.mono {w : World} {B B' : Nat} {a : Option Addr} {n : Nat} {Z : List Int} (h : TextIn w B a n Z) (hB : B ≤ B') : TextIn w B' a n Z := by
  obtain ⟨h1, h2, h3⟩ := h
  refine ⟨h1, h2, fun hp => ?_⟩
  obtain ⟨b, off, e, hbB, hc⟩ := h3 hp
  exact ⟨b, off, e, by omega, hc⟩
theorem ListIn.below {w w' : World} {B : Nat} {a : Option Addr} {n : Nat} {A : List (List Int)} (h : ListIn w B a n A) (hb : Below B w w') : ListIn w' B a n A := by
  obtain ⟨h1, h3⟩ := h
  refine ⟨h1, fun hp => ?_⟩
  obtain ⟨b, off, e, hbB, hc⟩ := h3 hp
  refine ⟨b, off, e, hbB, fun i hi => ?_⟩
  obtain ⟨ai, ni, ci, g, hm, ht⟩ := hc i hi
  exact ⟨ai, ni, ci, (hb.cell (by exact hbB)).trans g, hm, ht.below hb⟩
theorem ListIn.mono {w : World} {B B' : Nat} {a : Option Addr} {n : Nat} {A : List (List Int)} (h : ListIn w B a n A) (hB : B ≤ B') : ListIn w B' a n A := by
  obtain ⟨h1, h3⟩ := h
  refine ⟨h1, fun hp => ?_⟩
  obtain ⟨b, off, e, hbB, hc⟩ := h3 hp
  refine ⟨b, off, e, by omega, fun i hi => ?_⟩
  obtain ⟨ai, ni, ci, g, hm, ht⟩ := hc i hi
  exact ⟨ai, ni, ci, g, hm, ht.mono hB⟩
theorem TextIn.drawn {w w' : World} {B : Nat} {a : Option Addr} {n : Nat} {Z : List Int} (h : TextIn w B a n Z) (hd : Drawn w w') : TextIn w' B a n Z := h.below (hd.below _)
theorem ListIn.drawn {w w' : World} {B : Nat} {a : Option Addr} {n : Nat} {A : List (List Int)} (h : ListIn w B a n A) (hd : Drawn w w') : ListIn w' B a n A := h.below (hd.below _)

/-- 'l[f:]' -/
theorem ListIn.from {w : World} {B : Nat} {a : Option Addr} {n c f : Nat} {A : List (List Int)} (h : ListIn w B a n A) (hf : f ≤ n) (hc : n ≤ c) :
    ListIn w B (if c = f then a else a.map (·.add f)) (n - f) (A.drop f) := by
  obtain ⟨h1, h3⟩ := h
  refine ⟨by rw [List.length_drop, h1], fun hp => ?_⟩
  obtain ⟨b, off, e, hbB, hcl⟩ := h3 (by omega)
  refine ⟨b, off + f, ?_, hbB, fun i hi => ?_⟩
  · rw [if_neg (by omega), e]
    show some ((⟨b, off, none⟩ : Addr).add f) = _
    rw [Go.WideShapes.add_plain]
  · obtain ⟨ai, ni, ci, g, hm, ht⟩ := hcl (f + i) (by omega)
    refine ⟨ai, ni, ci, ?_, hm, ?_⟩
    · rw [Nat.add_assoc]; exact g
    · rwa [List.getElem?_drop]
/-- 'l[:m]' -/
theorem ListIn.upto {w : World} {B : Nat} {a : Option Addr} {n m : Nat} {A : List (List Int)} (h : ListIn w B a n A) (hm : m ≤ n) : ListIn w B a m (A.take m) := by
  obtain ⟨h1, h3⟩ := h
  refine ⟨by rw [List.length_take, h1]; omega, fun hp => ?_⟩
  obtain ⟨b, off, e, hbB, hcl⟩ := h3 (by omega)
  refine ⟨b, off, e, hbB, fun i hi => ?_⟩
  obtain ⟨ai, ni, ci, g, hl, ht⟩ := hcl i (by omega)
  exact ⟨ai, ni, ci, g, hl, by rwa [List.getElem?_take_of_lt hi]⟩

theorem drop_cons_getD (L : List Int) (k : Nat) (hk : k < L.length) : L.drop k = L[k]?.getD 0 :: L.drop (k + 1) := by
  rw [List.drop_eq_getElem_cons hk, List.getElem?_eq_getElem hk]; rfl
theorem eq_of_places (us L : List Int) (hl : us.length = L.length) (h : ∀ j, j < us.length → us[j]?.getD 0 = L[j]?.getD 0) : us = L := by
  apply List.ext_getElem hl
  intro i h1 h2
  have := h i h1
  rw [List.getElem?_eq_getElem h1, List.getElem?_eq_getElem h2] at this
  simpa using this

/-! ### zzEqual -/
set_option maxHeartbeats 1000000 in
theorem equal_any (B : Nat) (a1 : Option Addr) (n1 c1 : Nat) (a2 : Option Addr) (n2 c2 : Nat) (X Y : List Int) (w : World) (hn1 : n1 ≤ maxLen) (hn2 : n2 ≤ maxLen) (hX : TextIn w B a1 n1 X) (hY : TextIn w B a2 n2 Y) :
    Calls Try.prog 18 #[.slice a1 n1 c1, .slice a2 n2 c2] w fun e w' => e = .returned (.bool (decide (X = Y))) ∧ Drawn w w' := by
  have HX := hidIt hX
  have HY := hidIt hY
  clear hX hY
  unfold maxLen at hn1 hn2
  by_cases hne : n1 = n2
  · subst hne
    go_enter Try.func18, Try.ntmps18
    go_wp2
    go_loopw [5] (fun i wr => ∃ k : Nat, k ≤ n1 ∧ i = .int .i64 k ∧ Hid (∀ j, j < k → X[j]?.getD 0 = Y[j]?.getD 0) ∧ Drawn w wr) (fun i _ => n1 - (intOf i).toNat)
    case atStart => exact ⟨0, Nat.zero_le _, rfl, fun j hj => absurd hj (by omega), Drawn.refl _⟩
    case round =>
      obtain ⟨k, hk, rfl, HI, hdr⟩ := hrel
      by_cases hlt : k < n1
      · obtain ⟨b, off, rfl, _, hc⟩ := (HX.out.drawn hdr).2.2 (by omega)
        obtain ⟨b', off', rfl, _, hc'⟩ := (HY.out.drawn hdr).2.2 (by omega)
        have g := hc k hlt
        have g' := hc' k hlt
        have hlt' : (k : Int) < (n1 : Int) := by omega
        clear hc hc'
        by_cases e : X[k]?.getD 0 = Y[k]?.getD 0
        · have HI' : Hid (∀ j, j < k + 1 → X[j]?.getD 0 = Y[j]?.getD 0) := by
            intro j hj
            by_cases ej : j = k
            · subst ej; exact e
            · exact HI.out j (by omega)
          have e' : (X[k]?.getD 0 != Y[k]?.getD 0) = false := by simp [e]
          clear e HI
          generalize X[k]?.getD 0 = x at *
          generalize Y[k]?.getD 0 = y at *
          go_wp2
          go_quiet (fail)
          go_wp2
          go_roundw
          case rel => exact ⟨k + 1, by omega, by go_num, HI', hdr.more _⟩
          case measure => simp [intOf]; omega
        · have HF : Hid (decide (X = Y) = false) := by
            show _ = _
            rw [decide_eq_false_iff_not]
            intro h; apply e; rw [h]
          have e' : (X[k]?.getD 0 != Y[k]?.getD 0) = true := by simp [e]
          clear e HI
          generalize X[k]?.getD 0 = x at *
          generalize Y[k]?.getD 0 = y at *
          go_wp2
          go_quiet (fail)
          go_wp2
          go_ret
          exact ⟨ret_bool HF.out.symm, hdr.more _⟩
      · have HF : Hid (decide (X = Y) = true) := decide_eq_true (eq_of_places X Y (by rw [HX.out.1, HY.out.1]) (fun j hj => HI.out j (by rw [HX.out.1] at hj; omega)))
        clear HI
        go_wp2
        go_ret
        exact ⟨ret_bool HF.out.symm, hdr⟩
  · have HF : Hid (decide (X = Y) = false) := by
      show _ = _
      rw [decide_eq_false_iff_not]
      intro h; apply hne; rw [← HX.out.1, h, HY.out.1]
    have hne' : ((n1 : Int) != (n2 : Int)) = true := by rw [bne_iff_ne]; omega
    go_enter Try.func18, Try.ntmps18
    go_wp2
    go_ret
    exact ⟨ret_bool HF.out.symm, Drawn.refl _⟩

/-! ### zzCompare -/
set_option maxHeartbeats 1000000 in
theorem compare_any (B : Nat) (a1 : Option Addr) (n1 c1 : Nat) (a2 : Option Addr) (n2 c2 : Nat) (X Y : List Int) (w : World) (hn1 : n1 ≤ maxLen) (hn2 : n2 ≤ maxLen) (hX : TextIn w B a1 n1 X) (hY : TextIn w B a2 n2 Y) :
    Calls Try.prog 43 #[.slice a1 n1 c1, .slice a2 n2 c2] w fun e w' => e = .returned (.int .i64 (cmpL X Y)) ∧ Drawn w w' := by
  have HX := hidIt hX
  have HY := hidIt hY
  clear hX hY
  unfold maxLen at hn1 hn2
  go_enter Try.func43, Try.ntmps43
  go_wp2
  go_loopw [5] (fun i wr => ∃ k : Nat, k ≤ n1 ∧ k ≤ n2 ∧ i = .int .i64 k ∧ Hid (cmpL X Y = cmpL (X.drop k) (Y.drop k)) ∧ Drawn w wr) (fun i _ => n1 - (intOf i).toNat)
  case atStart => exact ⟨0, Nat.zero_le _, Nat.zero_le _, rfl, rfl, Drawn.refl _⟩
  case round =>
    obtain ⟨k, hk1, hk2, rfl, HI, hdr⟩ := hrel
    by_cases hl1 : k < n1
    · by_cases hl2 : k < n2
      · obtain ⟨b, off, rfl, _, hc⟩ := (HX.out.drawn hdr).2.2 (by omega)
        obtain ⟨b', off', rfl, _, hc'⟩ := (HY.out.drawn hdr).2.2 (by omega)
        have g := hc k hl1
        have g' := hc' k hl2
        have i1 : (k : Int) < (n1 : Int) := by omega
        have i2 : (k : Int) < (n2 : Int) := by omega
        have HJ : Hid (cmpL X Y = if X[k]?.getD 0 < Y[k]?.getD 0 then -1 else if Y[k]?.getD 0 < X[k]?.getD 0 then 1 else cmpL (X.drop (k + 1)) (Y.drop (k + 1))) := by
          show _ = _
          rw [HI.out, drop_cons_getD X k (by rw [HX.out.1]; exact hl1), drop_cons_getD Y k (by rw [HY.out.1]; exact hl2)]
          simp only [cmpL]
        clear hc hc' HI
        generalize X[k]?.getD 0 = x at *
        generalize Y[k]?.getD 0 = y at *
        by_cases h1 : x < y
        · have HF : Hid (cmpL X Y = -1) := by show _ = _; rw [HJ.out, if_pos h1]
          clear HJ
          go_wp2
          go_quiet (fail)
          go_wp2
          go_ret
          exact ⟨ret_int HF.out.symm, hdr.more _⟩
        · by_cases h2 : y < x
          · have HF : Hid (cmpL X Y = 1) := by show _ = _; rw [HJ.out, if_neg h1, if_pos h2]
            clear HJ
            go_wp2
            go_quiet (fail)
            go_wp2
            go_quiet (fail)
            go_wp2
            go_ret
            exact ⟨ret_int HF.out.symm, (hdr.more _).more _⟩
          · have HF : Hid (cmpL X Y = cmpL (X.drop (k + 1)) (Y.drop (k + 1))) := by show _ = _; rw [HJ.out, if_neg h1, if_neg h2]
            clear HJ
            go_wp2
            go_quiet (fail)
            go_wp2
            go_quiet (fail)
            go_wp2
            go_roundw
            case rel => exact ⟨k + 1, by omega, by omega, by go_num, HF, hdr.more _⟩
            case measure => simp [intOf]; omega
      · have HF : Hid (cmpL X Y = 1) := by
          show _ = _
          rw [HI.out, drop_cons_getD X k (by rw [HX.out.1]; exact hl1), List.drop_eq_nil_of_le (show Y.length ≤ k by rw [HY.out.1]; omega)]; rfl
        clear HI
        go_wp2
        go_ret
        exact ⟨ret_int HF.out.symm, hdr⟩
    · by_cases hl2 : k < n2
      · have HF : Hid (cmpL X Y = -1) := by
          show _ = _
          rw [HI.out, drop_cons_getD Y k (by rw [HY.out.1]; exact hl2), List.drop_eq_nil_of_le (show X.length ≤ k by rw [HX.out.1]; omega)]; rfl
        clear HI
        go_wp2
        go_ret
        exact ⟨ret_int HF.out.symm, hdr⟩
      · have HF : Hid (cmpL X Y = 0) := by
          show _ = _
          rw [HI.out, List.drop_eq_nil_of_le (show X.length ≤ k by rw [HX.out.1]; omega), List.drop_eq_nil_of_le (show Y.length ≤ k by rw [HY.out.1]; omega)]; rfl
        clear HI
        go_wp2
        go_ret
        exact ⟨ret_int HF.out.symm, hdr⟩
end Go.Proofs.Qxb6603095a.Wl
