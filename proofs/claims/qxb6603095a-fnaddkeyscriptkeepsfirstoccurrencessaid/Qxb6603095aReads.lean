import Derived.Test.Qxb6603095aSets
namespace Go.Proofs.Qxb6603095a.Wl
open Go.RowKit Go.Maps Go.WideMaps
open Go.Proofs.Qxb6603095a.Pl Go.Proofs.Qxb6603095a.Bs
set_option linter.unusedVariables false

/-- 'string(b)' -/
theorem conv_any {w : World} {B n c : Nat} {a : Option Addr} {Z : List Int} (hT : TextIn w B a n Z) : (convert 22 9 (.slice a n c)).run Try.prog w = .ok (.string (strOfNums Z)) w := by
  obtain ⟨hl, hbd, hcell⟩ := hT
  cases a with
  | none =>
    have hn0 : n = 0 := by
      rcases Nat.eq_zero_or_pos n with h | h
      · exact h
      · obtain ⟨_, _, e, _⟩ := hcell h; cases e
    subst hn0
    have : Z = [] := List.eq_nil_of_length_eq_zero hl
    subst this
    exact run_convert_bytes_nil w 22 5 Try.underlying22 Try.underlying5 0 c 9 Try.underlying9
  | some x =>
    have hld : (loadCells x n).run Try.prog w = .ok (Z.map (Value.int .u8)).toArray w := by
      have := run_loadCells_list (P := Try.prog) w x (Z.map (Value.int .u8)) (fun j v hj => by
        have hjl : j < Z.length := by have := (List.getElem?_eq_some_iff.1 hj).1; simpa using this
        obtain ⟨b, off, e, _, hc⟩ := hcell (by omega)
        cases e
        rw [Go.WideShapes.add_plain, hc j (by omega)]
        rw [List.getElem?_map, List.getElem?_eq_getElem hjl] at hj
        rw [List.getElem?_eq_getElem hjl]
        simpa using hj)
      simpa [hl] using this
    rw [run_convert_bytes_string w 22 9 5 _ n c Try.underlying22 Try.underlying5 Try.underlying9, run_bytesToString w x n c Z hld, foldl_push_bytes]
    simp [strOfNums, ByteArray.empty, ByteArray.emptyWithCapacity]
    rfl

theorem strOfNums_beq (X Y : List Int) (hX : Bytes X) (hY : Bytes Y) : ((strOfNums X).toList == (strOfNums Y).toList) = decide (X = Y) := by
  rw [ByteArray.toList_eq, ByteArray.toList_eq, strOfNums_data, strOfNums_data]
  by_cases h : X = Y
  · subst h; rw [decide_eq_true rfl]; simp
  · rw [decide_eq_false h, beq_eq_false_iff_ne]
    intro e
    exact h (kl_inj X Y hX hY (by unfold kl; rw [e]))

/-! ### bytes.Equal -/
theorem bytesEqual_any (B : Nat) (a1 : Option Addr) (n1 c1 : Nat) (a2 : Option Addr) (n2 c2 : Nat) (X Y : List Int) (w : World) (hX : TextIn w B a1 n1 X) (hY : TextIn w B a2 n2 Y) :
    Calls Try.prog 42 #[.slice a1 n1 c1, .slice a2 n2 c2] w fun e w' => e = .returned (.bool (decide (X = Y))) ∧ w' = w := by
  have h1 := conv_any (c := c1) hX
  have h2 := conv_any (c := c2) hY
  have HE := hidIt (strOfNums_beq X Y hX.2.1 hY.2.1)
  clear hX hY
  generalize strOfNums X = sx at *
  generalize strOfNums Y = sy at *
  go_enter Try.func42, Try.ntmps42
  go_wp2
  go_ret
  exact ⟨ret_bool HE.out, rfl⟩

/-! ### zzSameList -/
set_option maxHeartbeats 1000000 in
theorem sameList_any (B : Nat) (a1 : Option Addr) (n1 c1 : Nat) (a2 : Option Addr) (n2 c2 : Nat) (X Y : List (List Int)) (w : World) (hn1 : n1 ≤ maxLen) (hn2 : n2 ≤ maxLen) (hX : ListIn w B a1 n1 X) (hY : ListIn w B a2 n2 Y) :
    Calls Try.prog 20 #[.slice a1 n1 c1, .slice a2 n2 c2] w fun e w' => e = .returned (.bool (decide (X = Y))) ∧ Drawn w w' := by
  have HX := hidIt hX
  have HY := hidIt hY
  clear hX hY
  unfold maxLen at hn1 hn2
  by_cases hne : n1 = n2
  · subst hne
    go_enter Try.func20, Try.ntmps20
    go_wp2
    go_loopw [5] (fun i wr => ∃ k : Nat, k ≤ n1 ∧ i = .int .i64 k ∧ Hid (∀ j, j < k → X[j]?.getD [] = Y[j]?.getD []) ∧ Drawn w wr) (fun i _ => n1 - (intOf i).toNat)
    case atStart => exact ⟨0, Nat.zero_le _, rfl, fun j hj => absurd hj (by omega), Drawn.refl _⟩
    case round =>
      obtain ⟨k, hk, rfl, HI, hdr⟩ := hrel
      by_cases hlt : k < n1
      · obtain ⟨b, off, rfl, _, hc⟩ := (HX.out.drawn hdr).2 (by omega)
        obtain ⟨b', off', rfl, _, hc'⟩ := (HY.out.drawn hdr).2 (by omega)
        obtain ⟨e1, m1, d1, g1, l1, t1⟩ := hc k hlt
        obtain ⟨e2, m2, d2, g2, l2, t2⟩ := hc' k hlt
        have hlt' : (k : Int) < (n1 : Int) := by omega
        have HE : Hid (∀ nq, Calls Try.prog 18 #[.slice e1 m1 d1, .slice e2 m2 d2] (wr.drewN nq) fun e w' => e = .returned (.bool (decide (X[k]?.getD [] = Y[k]?.getD []))) ∧ ∃ m, w' = (wr.drewN nq).drewN m) := by
          intro nq
          exact equal_any B e1 m1 d1 e2 m2 d2 _ _ (wr.drewN nq) l1 l2 (t1.drawn ⟨nq, rfl⟩) (t2.drawn ⟨nq, rfl⟩)
        clear hc hc' t1 t2
        unfold maxLen at l1 l2
        by_cases e : X[k]?.getD [] = Y[k]?.getD []
        · have HI' : Hid (∀ j, j < k + 1 → X[j]?.getD [] = Y[j]?.getD []) := by
            intro j hj
            by_cases ej : j = k
            · subst ej; exact e
            · exact HI.out j (by omega)
          rw [decide_eq_true e] at HE
          clear e HI
          go_wp2
          go_quiet ((go_at_call 18; exact Calls.quiet_of (HE.out _)))
          go_wp2
          go_roundw
          case rel => exact ⟨k + 1, by omega, by go_num, HI', hdr.more _⟩
          case measure => simp [intOf]; omega
        · have HF : Hid (decide (X = Y) = false) := by
            show _ = _
            rw [decide_eq_false_iff_not]
            intro h; apply e; rw [h]
          rw [decide_eq_false e] at HE
          clear e HI
          go_wp2
          go_quiet ((go_at_call 18; exact Calls.quiet_of (HE.out _)))
          go_wp2
          go_ret
          exact ⟨ret_bool HF.out.symm, hdr.more _⟩
      · have HF : Hid (decide (X = Y) = true) := by
          refine decide_eq_true (List.ext_getElem (by rw [HX.out.1, HY.out.1]) (fun i h1 h2 => ?_))
          have := HI.out i (by rw [HX.out.1] at h1; omega)
          rw [List.getElem?_eq_getElem h1, List.getElem?_eq_getElem h2] at this
          simpa using this
        clear HI
        go_wp2
        go_ret
        exact ⟨ret_bool HF.out.symm, hdr⟩
  · have HF : Hid (decide (X = Y) = false) := by
      show _ = _
      rw [decide_eq_false_iff_not]
      intro h; apply hne; rw [← HX.out.1, h, HY.out.1]
    have hne' : ((n1 : Int) != (n2 : Int)) = true := by rw [bne_iff_ne]; omega
    go_enter Try.func20, Try.ntmps20
    go_wp2
    go_ret
    exact ⟨ret_bool HF.out.symm, Drawn.refl _⟩

/-! ### zzMapIsSetOf -/
theorem ListIn.bytes {w : World} {B n : Nat} {a : Option Addr} {A : List (List Int)} (h : ListIn w B a n A) : ∀ z ∈ A, Bytes z := by
  intro z hz
  obtain ⟨i, hi, rfl⟩ := List.getElem_of_mem hz
  obtain ⟨b, off, _, _, hc⟩ := h.2 (by rw [← h.1]; omega)
  obtain ⟨a1, n1, c1, _, _, t1⟩ := hc i (by rw [← h.1]; omega)
  rw [List.getElem?_eq_getElem hi] at t1
  exact t1.2.1

set_option maxHeartbeats 1000000 in
theorem mapIsSet_any (B b : Nat) (S : List (List Int)) (a : Option Addr) (n c : Nat) (A : List (List Int)) (w : World) (hn : n ≤ maxLen) (hS : SetIs w b S) (hSb : ∀ z ∈ S, Bytes z) (hA : ListIn w B a n A) (hsub : ∀ z ∈ A, z ∈ S) :
    Calls Try.prog 21 #[.map (some b), .slice a n c, .int .i64 (nDiff S : Nat)] w fun e w' => e = .returned (.bool true) ∧ w' = w := by
  have hlen := hS.len hSb
  have HA := hidIt hA
  have HS := hidIt hS
  have HSb := hidIt hSb
  have HQ := hidIt hsub
  clear hA hS hSb hsub
  generalize nDiff S = d at *
  unfold maxLen at hn
  go_enter Try.func21, Try.ntmps21
  go_wp2
  go_loop [7] (fun i => ∃ k : Nat, k ≤ n ∧ i = .int .i64 k) (fun i => n - (intOf i).toNat)
  case atStart => exact ⟨0, Nat.zero_le _, rfl⟩
  case round =>
    obtain ⟨k, hk, rfl⟩ := hrel
    by_cases hlt : k < n
    · obtain ⟨b1, off, rfl, _, hc⟩ := HA.out.2 (by omega)
      obtain ⟨a1, n1, c1, g1, m1, t1⟩ := hc k hlt
      have hconv := conv_any (c := c1) t1
      have hmem : A[k]?.getD [] ∈ A := by rw [List.getElem?_eq_getElem (by rw [HA.out.1]; exact hlt)]; exact List.getElem_mem _
      have hlook := HS.out.look HSb.out (A[k]?.getD []) t1.2.1 (by rw [t1.1]; exact m1)
      rw [show S.contains (A[k]?.getD []) = true from List.contains_iff_mem.2 (HQ.out _ hmem)] at hlook
      clear hc t1 hmem
      unfold maxLen at m1
      generalize strOfNums (A[k]?.getD []) = sx at *
      go_wp2
      go_round
      case rel => exact ⟨k + 1, by omega, by go_num⟩
      case measure => simp [intOf]; omega
    · go_wp2
      go_ret
      exact ⟨rfl, rfl⟩
end Go.Proofs.Qxb6603095a.Wl
