import Derived.Test.Qxb6001662aWords
namespace Go.Proofs.Qxb6001662a.Wl
open Go.RowKit
open Go.Proofs.Qxb6001662a.Bs
set_option linter.unusedVariables false

theorem info9 : (Try.prog.info? 9).map (fun i => (i.zero, i.size, i.bytes)) = some (some (.string ByteArray.empty), 1, 16) := by kernel_rfl
/-- 'make([]string, n)' -/
theorem make_words (n : Nat) (hn : n ≤ 1048576) (w : World) : ∃ w', (Instr.makeSlice 32 (.int .i64 (n : Int)) (.int .i64 (n : Int))).run Try.prog w = .ok (.slice (some ⟨w.heap.size, 0, none⟩) n n) w' ∧ w'.heap.size = w.heap.size + 1 ∧ Below w.heap.size w w' ∧ w'.rowIs w.heap.size 9 n (fun _ => .string ByteArray.empty) :=
  ⟨_, run_make_row' (P := Try.prog) (w := w) 32 9 (.string ByteArray.empty) 16 Try.underlying32 info9 rfl .i64 .i64 n (by omega) (by omega), Go.Deep.nblk_alloc _ _, (Below.refl _ _).alloc (Nat.le_refl _) _, World.rowIs_made w (.string ByteArray.empty) n 9⟩

set_option maxHeartbeats 1000000 in
theorem cloneStrings_any (B : Nat) (a : Option Addr) (n c : Nat) (A : List ByteArray) (w : World) (hn : n ≤ 1048576) (hB : B ≤ w.heap.size) (hA : WordsIn w B a n A) :
    Calls Try.prog 49 #[.slice a n c] w fun e w' => ∃ a' c', e = .returned (.slice a' n c') ∧ n ≤ c' ∧ WordsIn w' w'.heap.size a' n A ∧ Below w.heap.size w w' := by
  cases a with
  | none =>
    have hn0 := hA.none_len
    subst hn0
    have heq := fun wx => Lib.run_eql_slice_nil (P := Try.prog) wx 32 9 none 0 c 0 0 Try.underlying32
    have HA := hidIt hA
    clear hA
    go_enter Try.func49, Try.ntmps49
    go_wp2
    go_ret
    exact ⟨none, 0, rfl, Nat.le_refl _, (HA.out.mono hB), Below.refl _ _⟩
  | some x =>
    have heq := fun wx => Lib.run_eql_slice_nil (P := Try.prog) wx 32 9 (some x) n c 0 0 Try.underlying32
    have HA := hidIt hA
    clear hA
    obtain ⟨w0, hmk, hsz, hb0, hr0⟩ := make_words n hn w
    have HR0 := hidIt hr0
    generalize hG : w.heap.size = G at *
    have HG := hidIt hG
    clear hr0
    go_enter Try.func49, Try.ntmps49
    go_wp2
    clear hG
    go_loopw [4] (fun i wr => ∃ k : Nat, k ≤ n ∧ i = .int .i64 k ∧ Hid (wr.rowIs G 9 n (fun i => .string (if i < k then A[i]?.getD ByteArray.empty else ByteArray.empty))) ∧ Below G w wr) (fun i _ => n - (intOf i).toNat)
    case atStart => exact ⟨0, Nat.zero_le _, rfl, HR0.out.congr (fun i _ => by simp), hb0⟩
    case round =>
      obtain ⟨k, hk, rfl, HR, hnx⟩ := hrel
      by_cases hlt : k < n
      · obtain ⟨b, off, hx, hbB, hc⟩ := HA.out.2.2 (by omega)
        cases hx
        have g : wr.cell? ⟨b, off + k, none⟩ = some (.string (A[k]?.getD ByteArray.empty)) := (hnx.cell (show b < G by omega)).trans (hc k hlt)
        have gw := HR.out.cell hlt
        have gf := HR.out.frozen k
        have hne : G ≠ b := by omega
        have HR' : Hid ((wr.setCell ⟨G, k, none⟩ (.string (A[k]?.getD ByteArray.empty))).rowIs G 9 n (fun i => .string (if i < k + 1 then A[i]?.getD ByteArray.empty else ByteArray.empty))) := by
          refine (HR.out.set k (.string (A[k]?.getD ByteArray.empty))).congr (fun i hi => ?_)
          by_cases e : i = k
          · subst e; simp
          · simp only [if_neg e]
            by_cases h : i < k
            · rw [if_pos h, if_pos (by omega)]
            · rw [if_neg h, if_neg (by omega)]
        clear HR hc
        generalize A[k]?.getD ByteArray.empty = x at *
        go_wp2
        go_roundw
        case rel => exact ⟨k + 1, by omega, by go_num, HR', hnx.setCell (by exact Nat.le_refl _) _⟩
        case measure => simp [intOf]; omega
      · have HF : Hid (WordsIn wr wr.heap.size (some ⟨G, 0, none⟩) n A) := by
          refine ⟨HA.out.1, HA.out.2.1, fun _ => ⟨G, 0, rfl, HR.out.lt, fun i hi => ?_⟩⟩
          rw [Nat.zero_add, HR.out.cell hi, if_pos (by omega)]
        go_wp2
        go_ret
        exact ⟨some ⟨G, 0, none⟩, n, rfl, Nat.le_refl _, HF.out, hnx⟩

/-- place i is the first of its word -/
def firstW (A : List ByteArray) (i : Nat) : Bool := (List.range i).all fun j => !(decide (A[j]?.getD ByteArray.empty = A[i]?.getD ByteArray.empty))
theorem firstW_iff (A : List ByteArray) (i : Nat) : firstW A i = true ↔ ∀ j, j < i → A[j]?.getD ByteArray.empty ≠ A[i]?.getD ByteArray.empty := by
  unfold firstW
  rw [List.all_eq_true]
  constructor
  · intro h j hj
    have := h j (List.mem_range.2 hj)
    simpa using this
  · intro h j hj
    have := h j (List.mem_range.1 hj)
    simpa using this

set_option maxHeartbeats 1000000 in
theorem seenBefore_any (B : Nat) (a : Option Addr) (n c : Nat) (A : List ByteArray) (i : Nat) (w : World) (hn : n ≤ 1048576) (hi : i < n) (hA : WordsIn w B a n A) :
    Calls Try.prog 51 #[.slice a n c, .int .i64 (i : Int)] w fun e w' => e = .returned (.bool (!(firstW A i))) ∧ Drawn w w' := by
  have HA := hidIt hA
  clear hA
  go_enter Try.func51, Try.ntmps51
  go_wp2
  go_loopw [5] (fun j wr => ∃ k : Nat, k ≤ i ∧ j = .int .i64 k ∧ Hid (∀ j, j < k → A[j]?.getD ByteArray.empty ≠ A[i]?.getD ByteArray.empty) ∧ Drawn w wr) (fun j _ => i - (intOf j).toNat)
  case atStart => exact ⟨0, Nat.zero_le _, rfl, fun j hj => absurd hj (by omega), Drawn.refl _⟩
  case round =>
    obtain ⟨k, hk, rfl, HI, hdr⟩ := hrel
    by_cases hlt : k < i
    · obtain ⟨b, off, rfl, _, hc⟩ := (HA.out.drawn hdr).2.2 (by omega)
      have g1 := hc k (by omega)
      have g2 := hc i hi
      have hb := str_beq (A[k]?.getD ByteArray.empty) (A[i]?.getD ByteArray.empty)
      have hkn : (k : Int) < (n : Int) := by omega
      have hin : (i : Int) < (n : Int) := by omega
      by_cases e : A[k]?.getD ByteArray.empty = A[i]?.getD ByteArray.empty
      · rw [decide_eq_true e] at hb
        have HF : Hid (firstW A i = false) := by
          show _ = _
          cases h : firstW A i with
          | false => rfl
          | true => exact absurd e ((firstW_iff A i).1 h k hlt)
        clear hc e HI
        generalize A[k]?.getD ByteArray.empty = x at *
        generalize A[i]?.getD ByteArray.empty = y at *
        go_wp2
        go_quiet (fail)
        go_wp2
        go_ret
        exact ⟨ret_bool (by rw [HF.out]; rfl), hdr.more _⟩
      · rw [decide_eq_false e] at hb
        have HI' : Hid (∀ j, j < k + 1 → A[j]?.getD ByteArray.empty ≠ A[i]?.getD ByteArray.empty) := by
          intro j hj
          by_cases ej : j = k
          · subst ej; exact e
          · exact HI.out j (by omega)
        clear hc e HI
        have HIx := HI'
        clear HI'
        generalize A[k]?.getD ByteArray.empty = x at *
        generalize hy : A[i]?.getD ByteArray.empty = y at *
        go_wp2
        go_quiet (fail)
        go_wp2
        go_roundw
        case rel => exact ⟨k + 1, by omega, by go_num, HIx, hdr.more _⟩
        case measure => simp [intOf]; omega
    · have HF : Hid (firstW A i = true) := (firstW_iff A i).2 (fun j hj => HI.out j (by omega))
      go_wp2
      go_ret
      exact ⟨ret_bool (by rw [HF.out]; rfl), hdr⟩
end Go.Proofs.Qxb6001662a.Wl
