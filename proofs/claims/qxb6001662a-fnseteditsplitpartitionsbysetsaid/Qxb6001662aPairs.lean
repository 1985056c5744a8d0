import Derived.Test.Qxb6001662aWords2
namespace Go.Proofs.Qxb6001662a.Wl
open Go.RowKit
open Go.Proofs.Qxb6001662a.Bs
set_option linter.unusedVariables false

def hasP (T : List (ByteArray × ByteArray)) (o x : ByteArray) : Bool := T.any fun p => decide (p.1 = o) && decide (p.2 = x)
theorem hasP_iff (T : List (ByteArray × ByteArray)) (o x : ByteArray) : hasP T o x = true ↔ (o, x) ∈ T := by
  unfold hasP
  rw [List.any_eq_true]
  constructor
  · rintro ⟨p, hp, h⟩
    rw [Bool.and_eq_true, decide_eq_true_eq, decide_eq_true_eq] at h
    obtain ⟨rfl, rfl⟩ := h
    exact hp
  · intro h
    exact ⟨_, h, by simp⟩
theorem hasP_not (T : List (ByteArray × ByteArray)) (o x : ByteArray) (h : (o, x) ∉ T) : hasP T o x = false := by
  cases e : hasP T o x with
  | false => rfl
  | true => exact absurd ((hasP_iff T o x).1 e) h
theorem zip_get (A C : List ByteArray) (n k : Nat) (hA : A.length = n) (hC : C.length = n) (hk : k < n) : (A.zip C)[k]? = some (A[k]?.getD ByteArray.empty, C[k]?.getD ByteArray.empty) := by
  rw [List.getElem?_eq_getElem (by rw [List.length_zip]; omega), List.getElem_zip, List.getElem?_eq_getElem (by omega), List.getElem?_eq_getElem (by omega)]
  rfl
theorem zip_take (A C : List ByteArray) (n k : Nat) (hA : A.length = n) (hC : C.length = n) (hk : k < n) : (A.zip C).take (k + 1) = (A.zip C).take k ++ [(A[k]?.getD ByteArray.empty, C[k]?.getD ByteArray.empty)] := by
  have h : k < (A.zip C).length := by rw [List.length_zip]; omega
  rw [List.take_succ_eq_append_getElem h]
  have := zip_get A C n k hA hC hk
  rw [List.getElem?_eq_getElem h] at this
  rw [Option.some.inj this]

set_option maxHeartbeats 1000000 in
theorem hasPair_any (B : Nat) (a1 : Option Addr) (n c1 : Nat) (A : List ByteArray) (a2 : Option Addr) (c2 : Nat) (C : List ByteArray) (o x : ByteArray) (w : World) (hn : n ≤ 1048576) (ho : o.size ≤ maxLen) (hx : x.size ≤ maxLen) (hA : WordsIn w B a1 n A) (hC : WordsIn w B a2 n C) :
    Calls Try.prog 52 #[.slice a1 n c1, .slice a2 n c2, .string o, .string x] w fun e w' => e = .returned (.bool (hasP (A.zip C) o x)) ∧ w' = w := by
  have HA := hidIt hA
  have HC := hidIt hC
  clear hA hC
  unfold maxLen at ho hx
  go_enter Try.func52, Try.ntmps52
  go_wp2
  go_loop [9] (fun j => ∃ k : Nat, k ≤ n ∧ j = .int .i64 k ∧ Hid ((o, x) ∉ (A.zip C).take k)) (fun j => n - (intOf j).toNat)
  case atStart => exact ⟨0, Nat.zero_le _, rfl, by show _ ∉ _; simp⟩
  case round =>
    obtain ⟨k, hk, rfl, HI⟩ := hrel
    by_cases hlt : k < n
    · obtain ⟨b, off, rfl, _, hc⟩ := HA.out.2.2 (by omega)
      obtain ⟨b', off', rfl, _, hc'⟩ := HC.out.2.2 (by omega)
      have g1 := hc k hlt
      have g2 := hc' k hlt
      have hb1 := str_beq (A[k]?.getD ByteArray.empty) o
      have hb2 := str_beq (C[k]?.getD ByteArray.empty) x
      have hkn : (k : Int) < (n : Int) := by omega
      have hz := zip_get A C n k HA.out.1 HC.out.1 hlt
      have ht := zip_take A C n k HA.out.1 HC.out.1 hlt
      by_cases e1 : A[k]?.getD ByteArray.empty = o
      · by_cases e2 : C[k]?.getD ByteArray.empty = x
        · have HF : Hid ((o, x) ∈ A.zip C) := by
            rw [e1, e2] at hz
            exact List.mem_of_getElem? hz
          rw [decide_eq_true e1] at hb1
          rw [decide_eq_true e2] at hb2
          clear hc hc' e1 e2 hz ht HI
          generalize A[k]?.getD ByteArray.empty = y1 at *
          generalize C[k]?.getD ByteArray.empty = y2 at *
          go_wp2
          go_ret
          exact ⟨ret_bool ((hasP_iff _ _ _).2 HF.out).symm, rfl⟩
        · have HI' : Hid ((o, x) ∉ (A.zip C).take (k + 1)) := by
            show _ ∉ _
            rw [ht, List.mem_append, List.mem_singleton]
            rintro (h | h)
            · exact HI.out h
            · rw [Prod.mk.injEq] at h; exact e2 h.2.symm
          rw [decide_eq_true e1] at hb1
          rw [decide_eq_false e2] at hb2
          clear hc hc' e1 e2 hz ht HI
          generalize A[k]?.getD ByteArray.empty = y1 at *
          generalize C[k]?.getD ByteArray.empty = y2 at *
          go_wp2
          go_round
          case rel => exact ⟨k + 1, by omega, by go_num, HI'⟩
          case measure => simp [intOf]; omega
      · have HI' : Hid ((o, x) ∉ (A.zip C).take (k + 1)) := by
          show _ ∉ _
          rw [ht, List.mem_append, List.mem_singleton]
          rintro (h | h)
          · exact HI.out h
          · rw [Prod.mk.injEq] at h; exact e1 h.1.symm
        rw [decide_eq_false e1] at hb1
        clear hc hc' e1 hz ht HI hb2
        generalize A[k]?.getD ByteArray.empty = y1 at *
        generalize C[k]?.getD ByteArray.empty = y2 at *
        go_wp2
        go_round
        case rel => exact ⟨k + 1, by omega, by go_num, HI'⟩
        case measure => simp [intOf]; omega
    · have HF : Hid ((o, x) ∉ A.zip C) := by
        have := HI.out
        rwa [List.take_of_length_le (by rw [List.length_zip, HA.out.1, HC.out.1]; omega)] at this
      go_wp2
      go_ret
      exact ⟨ret_bool (hasP_not _ _ _ HF.out).symm, rfl⟩

set_option maxRecDepth 100000 in
set_option maxHeartbeats 4000000 in
theorem zzBytes47_any (B : Nat) (aO : Option Addr) (n cO : Nat) (O : List ByteArray) (aS : Option Addr) (m cS : Nat) (S : List ByteArray) (q1 q2 : ByteArray) (w : World) (hn : n ≤ maxLen) (hm : m ≤ maxLen) (hq1 : q1.size ≤ maxLen) (hq2 : q2.size ≤ maxLen) (hO : WordsIn w B aO n O) (hS : WordsIn w B aS m S) :
    Calls Try.prog 47 #[.slice aO n cO, .slice aS m cS, .string q1, .string q2] w fun e w' => AnyBool e ∧ w' = w := by
  have HO := hidIt hO
  have HS := hidIt hS
  clear hO hS
  unfold maxLen at hn hm hq1 hq2
  go_enter Try.func47, Try.ntmps47
  by_cases h1 : n ≤ 1048576
  case neg =>
    go_wp2
    go_ret
    exact ⟨⟨_, rfl⟩, rfl⟩
  go_wp2
  go_loop [9, 10] (fun z i => ∃ (s : Int) (k : Nat), z = .int .i64 s ∧ 0 ≤ s ∧ s ≤ 1048576 ∧ k ≤ n ∧ i = .int .i64 k) (fun _ i => n - (intOf i).toNat)
  case atStart => exact ⟨n, 0, rfl, by omega, by omega, Nat.zero_le _, rfl⟩
  case round =>
    obtain ⟨s, k, rfl, hs0, hs1, hk, rfl⟩ := hrel
    by_cases hlt : k < n
    · obtain ⟨b, off, rfl, _, hcl⟩ := HO.out.2.2 (by omega)
      have g1 := hcl k hlt
      have m1 := HO.out.2.1 k
      unfold maxLen at m1
      clear hcl
      generalize O[k]?.getD ByteArray.empty = x at *
      by_cases h2 : x.size ≤ 1048576
      case neg =>
        go_wp2
        go_ret
        exact ⟨⟨_, rfl⟩, rfl⟩
      by_cases h3 : s + x.size ≤ 1048576
      case neg =>
        go_wp2
        go_ret
        exact ⟨⟨_, rfl⟩, rfl⟩
      go_wp2
      go_round
      case rel => exact ⟨s + x.size, k + 1, rfl, by omega, by omega, by omega, by go_num⟩
      case measure => simp [intOf]; omega
    · by_cases h4 : m ≤ 1048576
      case neg =>
        go_wp2
        go_ret
        exact ⟨⟨_, rfl⟩, rfl⟩
      by_cases h5 : s + m ≤ 1048576
      case neg =>
        go_wp2
        go_ret
        exact ⟨⟨_, rfl⟩, rfl⟩
      go_wp2
      go_loop [9, 11] (fun z i => ∃ (s : Int) (k : Nat), z = .int .i64 s ∧ 0 ≤ s ∧ s ≤ 1048576 ∧ k ≤ m ∧ i = .int .i64 k) (fun _ i => m - (intOf i).toNat)
      case atStart => exact ⟨s + m, 0, rfl, by omega, by omega, Nat.zero_le _, rfl⟩
      case round =>
        clear hs0 hs1 h5
        obtain ⟨s, k, rfl, hs0, hs1, hk, rfl⟩ := hrel
        by_cases hlt : k < m
        · obtain ⟨b, off, rfl, _, hcl⟩ := HS.out.2.2 (by omega)
          have g1 := hcl k hlt
          have m1 := HS.out.2.1 k
          unfold maxLen at m1
          clear hcl
          generalize S[k]?.getD ByteArray.empty = x at *
          by_cases h2 : x.size ≤ 1048576
          case neg =>
            go_wp2
            go_ret
            exact ⟨⟨_, rfl⟩, rfl⟩
          by_cases h3 : s + x.size ≤ 1048576
          case neg =>
            go_wp2
            go_ret
            exact ⟨⟨_, rfl⟩, rfl⟩
          go_wp2
          go_round
          case rel => exact ⟨s + x.size, k + 1, rfl, by omega, by omega, by omega, by go_num⟩
          case measure => simp [intOf]; omega
        · by_cases i1 : q1.size ≤ 1048576
          case neg =>
            go_wp2
            go_ret
            exact ⟨⟨_, rfl⟩, rfl⟩
          by_cases i2 : s + q1.size ≤ 1048576
          case neg =>
            go_wp2
            go_ret
            exact ⟨⟨_, rfl⟩, rfl⟩
          by_cases i3 : q2.size ≤ 1048576
          case neg =>
            go_wp2
            go_ret
            exact ⟨⟨_, rfl⟩, rfl⟩
          by_cases i4 : s + q1.size + q2.size ≤ 1048576
          case neg =>
            go_wp2
            go_ret
            exact ⟨⟨_, rfl⟩, rfl⟩
          go_wp2
          go_ret
          exact ⟨⟨_, rfl⟩, rfl⟩
end Go.Proofs.Qxb6001662a.Wl
