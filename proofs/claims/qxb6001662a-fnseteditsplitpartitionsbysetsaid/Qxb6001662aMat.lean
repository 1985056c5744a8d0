import Derived.Test.Qxb6001662aWords2
namespace Go.Proofs.Qxb6001662a.Wl
open Go.RowKit
open Go.Proofs.Qxb6001662a.Bs
set_option linter.unusedVariables false

/-! ### a [][]string, in memory below block B -/
def MatIn (w : World) (B : Nat) (a : Option Addr) (n : Nat) (R : List (List ByteArray)) : Prop :=
  R.length = n ∧ (0 < n → ∃ b off, a = some ⟨b, off, none⟩ ∧ b < B ∧ ∀ i, i < n → ∃ ai ni ci, w.cell? ⟨b, off + i, none⟩ = some (.slice ai ni ci) ∧ ni ≤ maxLen ∧ WordsIn w B ai ni (R[i]?.getD []))
theorem MatIn.below {w w' : World} {B : Nat} {a : Option Addr} {n : Nat} {R : List (List ByteArray)} (h : MatIn w B a n R) (hb : Below B w w') : MatIn w' B a n R := by
  obtain ⟨h1, h2⟩ := h
  refine ⟨h1, fun hp => ?_⟩
  obtain ⟨b, off, e, hl, hc⟩ := h2 hp
  refine ⟨b, off, e, hl, fun i hi => ?_⟩
  obtain ⟨ai, ni, ci, g, m, t⟩ := hc i hi
  exact ⟨ai, ni, ci, (hb.cell (by exact hl)).trans g, m, t.below hb⟩
theorem MatIn.mono {w : World} {B B' : Nat} {a : Option Addr} {n : Nat} {R : List (List ByteArray)} (h : MatIn w B a n R) (hB : B ≤ B') : MatIn w B' a n R := by
  obtain ⟨h1, h2⟩ := h
  refine ⟨h1, fun hp => ?_⟩
  obtain ⟨b, off, e, hl, hc⟩ := h2 hp
  refine ⟨b, off, e, Nat.lt_of_lt_of_le hl hB, fun i hi => ?_⟩
  obtain ⟨ai, ni, ci, g, m, t⟩ := hc i hi
  exact ⟨ai, ni, ci, g, m, t.mono hB⟩
theorem MatIn.drawn {w w' : World} {B : Nat} {a : Option Addr} {n : Nat} {R : List (List ByteArray)} (h : MatIn w B a n R) (hd : Drawn w w') : MatIn w' B a n R := h.below (hd.below _)
theorem MatIn.none_len {w : World} {B n : Nat} {R : List (List ByteArray)} (h : MatIn w B none n R) : n = 0 := by
  rcases Nat.eq_zero_or_pos n with h0 | h0
  · exact h0
  · obtain ⟨_, _, e, _⟩ := h.2 h0
    cases e

/-- the set that a command names: its word 1 -/
def nm (r : List ByteArray) : ByteArray := r[1]?.getD ByteArray.empty
theorem nm_get (R : List (List ByteArray)) (i : Nat) : (R.map nm)[i]?.getD ByteArray.empty = nm (R[i]?.getD []) := by
  rw [List.getElem?_map]
  cases R[i]? with
  | none => rfl
  | some r => rfl
/-- every command has two words or more -/
def Two (R : List (List ByteArray)) : Prop := ∀ i, i < R.length → 2 ≤ (R[i]?.getD []).length

/-- the name of command i, in memory -/
theorem MatIn.name {w : World} {B n : Nat} {b off : Nat} {R : List (List ByteArray)} (h : MatIn w B (some ⟨b, off, none⟩) n R) (h2 : Two R) (i : Nat) (hi : i < n) :
    ∃ b1 o1 n1 c1, w.cell? ⟨b, off + i, none⟩ = some (.slice (some ⟨b1, o1, none⟩) n1 c1) ∧ (1 : Int) < (n1 : Int) ∧ n1 ≤ maxLen ∧ w.cell? ⟨b1, o1 + 1, none⟩ = some (.string (nm (R[i]?.getD []))) := by
  obtain ⟨hl, hp⟩ := h
  obtain ⟨b', off', e, _, hc⟩ := hp (by omega)
  cases e
  obtain ⟨ai, ni, ci, g, m, t⟩ := hc i hi
  have hn := h2 i (by omega)
  rw [t.1] at hn
  obtain ⟨b1, o1, rfl, _, hcc⟩ := t.2.2 (by omega)
  exact ⟨b1, o1, ni, ci, g, by omega, m, hcc 1 (by omega)⟩

set_option maxRecDepth 100000 in
set_option maxHeartbeats 4000000 in
theorem zzBytes34_any (B : Nat) (a : Option Addr) (n c : Nat) (R : List (List ByteArray)) (nn : Int) (w : World) (hn : n ≤ maxLen) (hR : MatIn w B a n R) :
    Calls Try.prog 34 #[.slice a n c, .int .i64 nn] w fun e w' => AnyBool e ∧ w' = w := by
  have HR := hidIt hR
  clear hR
  unfold maxLen at hn
  go_enter Try.func34, Try.ntmps34
  by_cases h1 : n ≤ 1048576
  case neg =>
    go_wp2
    go_ret
    exact ⟨⟨_, rfl⟩, rfl⟩
  go_wp2
  go_loop [5, 6, 7] (fun z i _ => ∃ (s : Int) (k : Nat), z = .int .i64 s ∧ 0 ≤ s ∧ s ≤ 1048576 ∧ k ≤ n ∧ i = .int .i64 k) (fun _ i _ => n - (intOf i).toNat)
  case atStart => exact ⟨n, 0, rfl, by omega, by omega, Nat.zero_le _, rfl⟩
  case round =>
    obtain ⟨s, k, rfl, hs0, hs1, hk, rfl⟩ := hrel
    by_cases hlt : k < n
    · obtain ⟨b, off, rfl, _, hcl⟩ := HR.out.2 (by omega)
      obtain ⟨a1, n1, c1, g1, m1, t1⟩ := hcl k hlt
      have HT := hidIt t1
      clear t1 hcl
      unfold maxLen at m1
      have hkn : (k : Int) < (n : Int) := by omega
      by_cases h2 : n1 ≤ 1048576
      case neg =>
        go_wp2
        go_ret
        exact ⟨⟨_, rfl⟩, rfl⟩
      by_cases h3 : s + n1 ≤ 1048576
      case neg =>
        go_wp2
        go_ret
        exact ⟨⟨_, rfl⟩, rfl⟩
      go_wp2
      go_loop [5, 7] (fun z i => ∃ (s : Int) (k : Nat), z = .int .i64 s ∧ 0 ≤ s ∧ s ≤ 1048576 ∧ k ≤ n1 ∧ i = .int .i64 k) (fun _ i => n1 - (intOf i).toNat)
      case atStart => exact ⟨s + n1, 0, rfl, by omega, by omega, Nat.zero_le _, rfl⟩
      case round =>
        clear hs0 hs1 h3
        obtain ⟨s, u, rfl, hs0, hs1, hu, rfl⟩ := hrel
        by_cases hltu : u < n1
        · obtain ⟨b1, o1, rfl, _, hcc⟩ := HT.out.2.2 (by omega)
          have g2 := hcc u hltu
          have m2 := HT.out.2.1 u
          unfold maxLen at m2
          have hun : (u : Int) < (n1 : Int) := by omega
          clear hcc
          generalize (R[k]?.getD [])[u]?.getD ByteArray.empty = x at *
          by_cases h4 : x.size ≤ 1048576
          case neg =>
            go_wp2
            go_ret
            exact ⟨⟨_, rfl⟩, rfl⟩
          by_cases h5 : s + x.size ≤ 1048576
          case neg =>
            go_wp2
            go_ret
            exact ⟨⟨_, rfl⟩, rfl⟩
          go_wp2
          go_round
          case rel => exact ⟨s + x.size, u + 1, rfl, by omega, by omega, by omega, by go_num⟩
          case measure => simp [intOf]; omega
        · go_wp2
          go_round
          case rel => exact ⟨s, k + 1, rfl, by omega, by omega, by omega, by go_num⟩
          case measure => simp [intOf]; omega
    · go_wp2
      go_ret
      exact ⟨⟨_, rfl⟩, rfl⟩

set_option maxHeartbeats 1000000 in
theorem firstOfSet_any (B : Nat) (a : Option Addr) (n c : Nat) (R : List (List ByteArray)) (i : Nat) (w : World) (hn : n ≤ 1048576) (hi : i < n) (hR : MatIn w B a n R) (h2 : Two R) :
    Calls Try.prog 39 #[.slice a n c, .int .i64 (i : Int)] w fun e w' => e = .returned (.bool (firstW (R.map nm) i)) ∧ Drawn w w' := by
  obtain ⟨b, off, rfl, _, _⟩ := hR.2 (by omega)
  have HR := hidIt hR
  have H2 := hidIt h2
  clear hR h2
  go_enter Try.func39, Try.ntmps39
  go_wp2
  go_loopw [5] (fun j wr => ∃ k : Nat, k ≤ i ∧ j = .int .i64 k ∧ Hid (∀ j, j < k → (R.map nm)[j]?.getD ByteArray.empty ≠ (R.map nm)[i]?.getD ByteArray.empty) ∧ Drawn w wr) (fun j _ => i - (intOf j).toNat)
  case atStart => exact ⟨0, Nat.zero_le _, rfl, fun j hj => absurd hj (by omega), Drawn.refl _⟩
  case round =>
    obtain ⟨k, hk, rfl, HI, hdr⟩ := hrel
    by_cases hlt : k < i
    · obtain ⟨b1, o1, n1, c1, g1, l1, m1, f1⟩ := (HR.out.drawn hdr).name H2.out k (by omega)
      obtain ⟨b2, o2, n2, c2, g2, l2, m2, f2⟩ := (HR.out.drawn hdr).name H2.out i hi
      unfold maxLen at m1 m2
      have hb := str_beq (nm (R[k]?.getD [])) (nm (R[i]?.getD []))
      have hkn : (k : Int) < (n : Int) := by omega
      have hin : (i : Int) < (n : Int) := by omega
      by_cases e : nm (R[k]?.getD []) = nm (R[i]?.getD [])
      · rw [decide_eq_true e] at hb
        have HF : Hid (firstW (R.map nm) i = false) := by
          show _ = _
          cases h : firstW (R.map nm) i with
          | false => rfl
          | true => exact absurd (by rw [nm_get, nm_get]; exact e) ((firstW_iff _ i).1 h k hlt)
        clear e HI
        generalize nm (R[k]?.getD []) = x at *
        generalize nm (R[i]?.getD []) = y at *
        go_wp2
        go_quiet (fail)
        go_wp2
        go_ret
        exact ⟨ret_bool (by rw [HF.out]), hdr.more _⟩
      · rw [decide_eq_false e] at hb
        have HI' : Hid (∀ j, j < k + 1 → (R.map nm)[j]?.getD ByteArray.empty ≠ (R.map nm)[i]?.getD ByteArray.empty) := by
          intro j hj
          by_cases ej : j = k
          · subst ej; rw [nm_get, nm_get]; exact e
          · exact HI.out j (by omega)
        clear e HI
        generalize nm (R[k]?.getD []) = x at *
        generalize hy : nm (R[i]?.getD []) = y at *
        go_wp2
        go_quiet (fail)
        go_wp2
        go_roundw
        case rel => exact ⟨k + 1, by omega, by go_num, HI', hdr.more _⟩
        case measure => simp [intOf]; omega
    · have HF : Hid (firstW (R.map nm) i = true) := (firstW_iff _ i).2 (fun j hj => HI.out j (by omega))
      clear HI
      go_wp2
      go_ret
      exact ⟨ret_bool HF.out.symm, hdr⟩

/-! ### zzCountSet -/
def ofSet (R : List (List ByteArray)) (x : ByteArray) : List (List ByteArray) := R.filter fun r => decide (nm r = x)
theorem take_succ (R : List (List ByteArray)) (k : Nat) (hk : k < R.length) : R.take (k + 1) = R.take k ++ [R[k]?.getD []] := by
  rw [List.take_succ_eq_append_getElem hk, List.getElem?_eq_getElem hk]; rfl
theorem ofSet_append (R S : List (List ByteArray)) (x : ByteArray) : ofSet (R ++ S) x = ofSet R x ++ ofSet S x := List.filter_append ..
theorem ofSet_one (r : List ByteArray) (x : ByteArray) : ofSet [r] x = if nm r = x then [r] else [] := by
  unfold ofSet
  by_cases e : nm r = x
  · simp [e]
  · simp [e]
theorem ofSet_take (R : List (List ByteArray)) (k : Nat) (hk : k < R.length) (x : ByteArray) : ofSet (R.take (k + 1)) x = ofSet (R.take k) x ++ if nm (R[k]?.getD []) = x then [R[k]?.getD []] else [] := by
  rw [take_succ R k hk, ofSet_append, ofSet_one]
theorem ofSet_drop (R : List (List ByteArray)) (k : Nat) (hk : k < R.length) (x : ByteArray) : ofSet (R.drop k) x = if nm (R[k]?.getD []) = x then (R[k]?.getD []) :: ofSet (R.drop (k + 1)) x else ofSet (R.drop (k + 1)) x := by
  rw [List.drop_eq_getElem_cons hk, List.getElem?_eq_getElem hk]
  unfold ofSet
  rw [List.filter_cons]
  simp
theorem ofSet_len (R : List (List ByteArray)) (x : ByteArray) : (ofSet R x).length ≤ R.length := List.length_filter_le ..

set_option maxHeartbeats 1000000 in
theorem countSet_any (B : Nat) (a : Option Addr) (n c : Nat) (R : List (List ByteArray)) (x : ByteArray) (w : World) (hn : n ≤ 1048576) (hx : x.size ≤ maxLen) (hR : MatIn w B a n R) (h2 : Two R) :
    Calls Try.prog 40 #[.slice a n c, .string x] w fun e w' => e = .returned (.int .i64 ((ofSet R x).length : Nat)) ∧ w' = w := by
  have HR := hidIt hR
  have H2 := hidIt h2
  clear hR h2
  go_enter Try.func40, Try.ntmps40
  go_wp2
  go_loop [5, 6] (fun z i => ∃ k : Nat, k ≤ n ∧ i = .int .i64 k ∧ z = .int .i64 ((ofSet (R.take k) x).length : Nat)) (fun _ i => n - (intOf i).toNat)
  case atStart => exact ⟨0, Nat.zero_le _, rfl, rfl⟩
  case round =>
    obtain ⟨k, hk, rfl, rfl⟩ := hrel
    by_cases hlt : k < n
    · obtain ⟨b, off, rfl, _, _⟩ := HR.out.2 (by omega)
      obtain ⟨b1, o1, n1, c1, g1, l1, m1, f1⟩ := HR.out.name H2.out k hlt
      unfold maxLen at m1
      have hb := str_beq (nm (R[k]?.getD [])) x
      have hkn : (k : Int) < (n : Int) := by omega
      have ht := ofSet_take R k (by rw [HR.out.1]; exact hlt) x
      have hle := ofSet_len (R.take k) x
      rw [List.length_take] at hle
      by_cases e : nm (R[k]?.getD []) = x
      · rw [decide_eq_true e] at hb
        rw [if_pos e] at ht
        have HT : Hid ((ofSet (R.take (k + 1)) x).length = (ofSet (R.take k) x).length + 1) := by show _ = _; rw [ht, List.length_append]; rfl
        clear e ht
        generalize nm (R[k]?.getD []) = y at *
        go_wp2
        go_round
        case rel => exact ⟨k + 1, by omega, by go_num, by rw [HT.out]; go_num⟩
        case measure => simp [intOf]; omega
      · rw [decide_eq_false e] at hb
        rw [if_neg e, List.append_nil] at ht
        have HT : Hid ((ofSet (R.take (k + 1)) x).length = (ofSet (R.take k) x).length) := by show _ = _; rw [ht]
        clear e ht
        generalize nm (R[k]?.getD []) = y at *
        go_wp2
        go_round
        case rel => exact ⟨k + 1, by omega, by go_num, by rw [HT.out]⟩
        case measure => simp [intOf]; omega
    · have ht : R.take k = R := List.take_of_length_le (by rw [HR.out.1]; omega)
      rw [ht]
      go_wp2
      go_ret
      exact ⟨rfl, rfl⟩

/-! ### zzSameWords -/
set_option maxHeartbeats 1000000 in
theorem sameWords_any (B : Nat) (a1 : Option Addr) (n c1 : Nat) (A : List ByteArray) (a2 : Option Addr) (c2 : Nat) (w : World) (hn : n ≤ maxLen) (h1 : WordsIn w B a1 n A) (h2 : WordsIn w B a2 n A) :
    Calls Try.prog 60 #[.slice a1 n c1, .slice a2 n c2] w fun e w' => e = .returned (.bool true) ∧ Drawn w w' := by
  have HA := hidIt h1
  have HC := hidIt h2
  clear h1 h2
  unfold maxLen at hn
  have hnn : ((n : Int) != (n : Int)) = false := by simp
  go_enter Try.func60, Try.ntmps60
  go_wp2
  go_loopw [5] (fun j wr => ∃ k : Nat, k ≤ n ∧ j = .int .i64 k ∧ Drawn w wr) (fun j _ => n - (intOf j).toNat)
  case atStart => exact ⟨0, Nat.zero_le _, rfl, Drawn.refl _⟩
  case round =>
    obtain ⟨k, hk, rfl, hdr⟩ := hrel
    by_cases hlt : k < n
    · obtain ⟨b, off, rfl, _, hc⟩ := (HA.out.drawn hdr).2.2 (by omega)
      obtain ⟨b', off', rfl, _, hc'⟩ := (HC.out.drawn hdr).2.2 (by omega)
      have g1 := hc k hlt
      have g2 := hc' k hlt
      have hb := str_beq (A[k]?.getD ByteArray.empty) (A[k]?.getD ByteArray.empty)
      rw [decide_eq_true rfl] at hb
      have hkn : (k : Int) < (n : Int) := by omega
      clear hc hc'
      generalize A[k]?.getD ByteArray.empty = x at *
      go_wp2
      go_quiet (fail)
      go_wp2
      go_roundw
      case rel => exact ⟨k + 1, by omega, by go_num, hdr.more _⟩
      case measure => simp [intOf]; omega
    · go_wp2
      go_ret
      exact ⟨rfl, hdr⟩
end Go.Proofs.Qxb6001662a.Wl
