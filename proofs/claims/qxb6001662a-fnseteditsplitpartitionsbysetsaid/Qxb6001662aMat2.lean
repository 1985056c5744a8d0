import Derived.Test.Qxb6001662aMat
namespace Go.Proofs.Qxb6001662a.Wl
open Go.RowKit
open Go.Proofs.Qxb6001662a.Bs
set_option linter.unusedVariables false

/-! ### zzCloneStrings, and where the copy lies -/
set_option maxHeartbeats 1000000 in
theorem cloneStrings_at (B : Nat) (a : Option Addr) (n c : Nat) (A : List ByteArray) (w : World) (hn : n ≤ 1048576) (hB : B ≤ w.heap.size) (hA : WordsIn w B a n A) :
    Calls Try.prog 49 #[.slice a n c] w fun e w' => ∃ a' c', e = .returned (.slice a' n c') ∧ WordsIn w' w'.heap.size a' n A ∧ Below w.heap.size w w' ∧ (0 < n → a' = some ⟨w.heap.size, 0, none⟩) := by
  cases a with
  | none =>
    have hn0 := hA.none_len
    subst hn0
    have heq := fun wx => Lib.run_eql_slice_nil (P := Try.prog) wx 32 9 none 0 c 0 0 Try.underlying32
    have HA := hidIt hA
    clear hA
    go_enter Try.func49, Try.ntmps49
    go_wp2
    go_ret
    exact ⟨none, 0, rfl, (HA.out.mono hB), Below.refl _ _, fun h => absurd h (by omega)⟩
  | some x =>
    have heq := fun wx => Lib.run_eql_slice_nil (P := Try.prog) wx 32 9 (some x) n c 0 0 Try.underlying32
    have HA := hidIt hA
    clear hA
    obtain ⟨w0, hmk, hsz, hb0, hr0⟩ := make_words n hn w
    have HR0 := hidIt hr0
    generalize hG : w.heap.size = G at *
    have HG := hidIt hG
    clear hr0
    go_enter Try.func49, Try.ntmps49
    go_wp2
    clear hG
    go_loopw [4] (fun i wr => ∃ k : Nat, k ≤ n ∧ i = .int .i64 k ∧ Hid (wr.rowIs G 9 n (fun i => .string (if i < k then A[i]?.getD ByteArray.empty else ByteArray.empty))) ∧ Below G w wr) (fun i _ => n - (intOf i).toNat)
    case atStart => exact ⟨0, Nat.zero_le _, rfl, HR0.out.congr (fun i _ => by simp), hb0⟩
    case round =>
      obtain ⟨k, hk, rfl, HR, hnx⟩ := hrel
      by_cases hlt : k < n
      · obtain ⟨b, off, hx, hbB, hc⟩ := HA.out.2.2 (by omega)
        cases hx
        have g : wr.cell? ⟨b, off + k, none⟩ = some (.string (A[k]?.getD ByteArray.empty)) := (hnx.cell (show b < G by omega)).trans (hc k hlt)
        have gw := HR.out.cell hlt
        have gf := HR.out.frozen k
        have hne : G ≠ b := by omega
        have HR' : Hid ((wr.setCell ⟨G, k, none⟩ (.string (A[k]?.getD ByteArray.empty))).rowIs G 9 n (fun i => .string (if i < k + 1 then A[i]?.getD ByteArray.empty else ByteArray.empty))) := by
          refine (HR.out.set k (.string (A[k]?.getD ByteArray.empty))).congr (fun i hi => ?_)
          by_cases e : i = k
          · subst e; simp
          · simp only [if_neg e]
            by_cases h : i < k
            · rw [if_pos h, if_pos (by omega)]
            · rw [if_neg h, if_neg (by omega)]
        clear HR hc
        generalize A[k]?.getD ByteArray.empty = x at *
        go_wp2
        go_roundw
        case rel => exact ⟨k + 1, by omega, by go_num, HR', hnx.setCell (by exact Nat.le_refl _) _⟩
        case measure => simp [intOf]; omega
      · have HF : Hid (WordsIn wr wr.heap.size (some ⟨G, 0, none⟩) n A) := by
          refine ⟨HA.out.1, HA.out.2.1, fun _ => ⟨G, 0, rfl, HR.out.lt, fun i hi => ?_⟩⟩
          rw [Nat.zero_add, HR.out.cell hi, if_pos (by omega)]
        go_wp2
        go_ret
        exact ⟨some ⟨G, 0, none⟩, n, rfl, HF.out, hnx, fun _ => rfl⟩

/-! ### zzCloneMatrix -/
theorem info32 : (Try.prog.info? 32).map (fun i => (i.zero, i.size, i.bytes)) = some (some (.slice none 0 0), 1, 24) := by kernel_rfl

/-- words in blocks above G -/
def WordsUp (w : World) (G : Nat) (a : Option Addr) (n : Nat) (A : List ByteArray) : Prop :=
  A.length = n ∧ (∀ i : Nat, (A[i]?.getD ByteArray.empty).size ≤ maxLen) ∧
  (0 < n → ∃ b off, a = some ⟨b, off, none⟩ ∧ G < b ∧ b < w.heap.size ∧ ∀ i, i < n → w.cell? ⟨b, off + i, none⟩ = some (.string (A[i]?.getD ByteArray.empty)))
theorem WordsUp.later {w w' : World} {G : Nat} {a : Option Addr} {n : Nat} {A : List ByteArray} (h : WordsUp w G a n A) (hb : Below w.heap.size w w') : WordsUp w' G a n A := by
  obtain ⟨h1, h2, h3⟩ := h
  refine ⟨h1, h2, fun hp => ?_⟩
  obtain ⟨b, off, e, hG, hl, hc⟩ := h3 hp
  exact ⟨b, off, e, hG, Nat.lt_of_lt_of_le hl hb.size, fun i hi => (hb.cell (by exact hl)).trans (hc i hi)⟩
theorem WordsUp.set {w : World} {G k : Nat} {v : Value} {a : Option Addr} {n : Nat} {A : List ByteArray} (h : WordsUp w G a n A) : WordsUp (w.setCell ⟨G, k, none⟩ v) G a n A := by
  obtain ⟨h1, h2, h3⟩ := h
  refine ⟨h1, h2, fun hp => ?_⟩
  obtain ⟨b, off, e, hG, hl, hc⟩ := h3 hp
  refine ⟨b, off, e, hG, by rw [Go.Deep.nblk_setCell]; exact hl, fun i hi => ?_⟩
  rw [World.cell?_of_block (w := w) (Go.Deep.blk_setCell_other _ _ _ _ (show b ≠ G by omega))]
  exact hc i hi
theorem WordsUp.toIn {w : World} {G : Nat} {a : Option Addr} {n : Nat} {A : List ByteArray} (h : WordsUp w G a n A) : WordsIn w w.heap.size a n A := by
  obtain ⟨h1, h2, h3⟩ := h
  refine ⟨h1, h2, fun hp => ?_⟩
  obtain ⟨b, off, e, hG, hl, hc⟩ := h3 hp
  exact ⟨b, off, e, hl, hc⟩

/-- the first k rows stand in their new places -/
def Cloned (w : World) (G n k : Nat) (R : List (List ByteArray)) : Prop :=
  ∃ V : Nat → Value, w.rowIs G 32 n (fun i => if i < k then V i else .slice none 0 0) ∧ ∀ i, i < k → ∃ ai ni ci, V i = .slice ai ni ci ∧ ni ≤ maxLen ∧ WordsUp w G ai ni (R[i]?.getD [])
theorem Cloned.step {w w' : World} {G n k : Nat} {R : List (List ByteArray)} (h : Cloned w G n k R) (hb : Below w.heap.size w w') (ai : Option Addr) (ni ci : Nat) (hm : ni ≤ maxLen) (ht : WordsUp w' G ai ni (R[k]?.getD [])) :
    Cloned (w'.setCell ⟨G, k, none⟩ (.slice ai ni ci)) G n (k + 1) R := by
  obtain ⟨V, hr, hV⟩ := h
  refine ⟨fun i => if i = k then .slice ai ni ci else V i, ?_, ?_⟩
  · have hr' : w'.rowIs G 32 n (fun i => if i < k then V i else .slice none 0 0) := hr.of_block (hb.block G hr.lt)
    refine (hr'.set k (.slice ai ni ci)).congr (fun i hi => ?_)
    by_cases e : i = k
    · subst e; simp
    · simp only [if_neg e]
      by_cases h : i < k
      · rw [if_pos h, if_pos (by omega)]
      · rw [if_neg h, if_neg (by omega)]
  · intro i hi
    by_cases e : i = k
    · subst e
      exact ⟨ai, ni, ci, by simp, hm, ht.set⟩
    · obtain ⟨a1, n1, c1, e1, m1, t1⟩ := hV i (by omega)
      exact ⟨a1, n1, c1, by simp [e, e1], m1, (t1.later hb).set⟩
theorem Cloned.done {w : World} {G n : Nat} {R : List (List ByteArray)} (h : Cloned w G n n R) (hR : R.length = n) : MatIn w w.heap.size (some ⟨G, 0, none⟩) n R := by
  obtain ⟨V, hr, hV⟩ := h
  refine ⟨hR, fun _ => ⟨G, 0, rfl, hr.lt, fun i hi => ?_⟩⟩
  obtain ⟨a1, n1, c1, e1, m1, t1⟩ := hV i hi
  refine ⟨a1, n1, c1, ?_, m1, t1.toIn⟩
  rw [Nat.zero_add, hr.cell hi, if_pos hi, e1]

set_option maxHeartbeats 1000000 in
theorem cloneMatrix_any (B : Nat) (a : Option Addr) (n c : Nat) (R : List (List ByteArray)) (w : World) (hn : n ≤ 65536) (hB : B ≤ w.heap.size) (hR : MatIn w B a n R) (hL : ∀ i, i < n → (R[i]?.getD []).length ≤ 1048576) :
    Calls Try.prog 36 #[.slice a n c] w fun e w' => ∃ a', e = .returned (.slice a' n n) ∧ MatIn w' w'.heap.size a' n R ∧ Below w.heap.size w w' := by
  cases a with
  | none =>
    have hn0 := hR.none_len
    subst hn0
    have heq := fun wx => Lib.run_eql_slice_nil (P := Try.prog) wx 30 32 none 0 c 0 0 Try.underlying30
    have HR := hidIt hR
    clear hR hL
    go_enter Try.func36, Try.ntmps36
    go_wp2
    go_ret
    exact ⟨none, rfl, (HR.out.mono hB), Below.refl _ _⟩
  | some x =>
    have heq := fun wx => Lib.run_eql_slice_nil (P := Try.prog) wx 30 32 (some x) n c 0 0 Try.underlying30
    have HA := hidIt hR
    have HL := hidIt hL
    clear hR hL
    have hmk := fun wx => run_make_row' (P := Try.prog) (w := wx) 30 32 (.slice none 0 0) 24 Try.underlying30 info32 rfl .i64 .i64 n (by omega) (by omega)
    have HR0 := hidIt (World.rowIs_made w (.slice none 0 0) n 32)
    generalize hG : w.heap.size = G at *
    have HG := hidIt hG
    go_enter Try.func36, Try.ntmps36
    go_wp2
    generalize hw0 : w.alloc (Obj.cells (madeCells #[Value.slice none 0 0] n) 32) = w0 at *
    have hb0 : Below G w w0 := by rw [← hw0]; exact (Below.refl _ _).alloc (by omega) _
    clear hw0 hG
    go_loopw [4] (fun i wr => ∃ k : Nat, k ≤ n ∧ i = .int .i64 k ∧ Cloned wr G n k R ∧ Below G w wr) (fun i _ => n - (intOf i).toNat)
    case atStart => exact ⟨0, Nat.zero_le _, rfl, ⟨fun _ => .slice none 0 0, HR0.out.congr (fun i _ => by simp), fun i hi => absurd hi (by omega)⟩, hb0⟩
    case round =>
      obtain ⟨k, hk, rfl, HR, hnx⟩ := hrel
      by_cases hlt : k < n
      · obtain ⟨b, off, hx, hbB, hcl⟩ := HA.out.2 (by omega)
        cases hx
        obtain ⟨a1, n1, c1, g0, m1, t1⟩ := hcl k hlt
        have hbG : b < G := by have := HG.out; omega
        have g : wr.cell? ⟨b, off + k, none⟩ = some (.slice a1 n1 c1) := (hnx.cell (by exact hbG)).trans g0
        have hGl : G < wr.heap.size := by obtain ⟨V, hr, _⟩ := HR; exact hr.lt
        have hl1 : n1 ≤ 1048576 := by have := HL.out k hlt; rwa [t1.1] at this
        have HT1 := hidIt ((t1.below (hnx.mono (by have := HG.out; omega))).mono (show B ≤ G by have := HG.out; omega))
        obtain ⟨gw0, gf⟩ : (∃ v0, wr.cell? ⟨G, k, none⟩ = some v0) ∧ wr.frozen? ⟨G, k, none⟩ = false := by
          obtain ⟨V, hr, _⟩ := HR; exact ⟨⟨_, hr.cell hlt⟩, hr.frozen k⟩
        obtain ⟨v0, gw⟩ := gw0
        clear hcl g0 t1
        have HC := hidIt (cloneStrings_at G a1 n1 c1 (R[k]?.getD []) wr hl1 (by omega) HT1.out)
        clear HT1
        go_wp2_with (go_at_call 49; refine HC.out.mono ?_; rintro e w1 ⟨a', c', rfl, ht', hb', hnew⟩; have gw1 : w1.cell? ⟨G, k, none⟩ = some v0 := (hb'.cell (by exact hGl)).trans gw; have gf1 : w1.frozen? ⟨G, k, none⟩ = false := (hb'.frozen (by exact hGl)).trans gf; clear gw gf g)
        have HR' := HR.step hb' a' n1 c' m1 ⟨ht'.1, ht'.2.1, fun hp => by
          obtain ⟨b2, off2, e2, hl2, hc2⟩ := ht'.2.2 hp
          have e3 := hnew hp
          rw [e3] at e2
          cases e2
          exact ⟨_, _, e3, hGl, hl2, hc2⟩⟩
        go_roundw
        case rel => exact ⟨k + 1, by omega, by go_num, HR', (hnx.trans (hb'.mono (by omega))).setCell (by exact Nat.le_refl _) _⟩
        case measure => simp [intOf]; omega
      · obtain rfl : k = n := by omega
        have HF := hidIt (HR.done HA.out.1)
        clear HR
        go_wp2
        go_ret
        exact ⟨some ⟨G, 0, none⟩, rfl, HF.out, hnx⟩

/-! ### the edit's door and its reading -/
theorem setEditOf_any (v : Option Addr) (n c : Nat) (w : World) :
    Calls Try.prog 37 #[.slice v n c] w fun e w' => e = .returned (.pointer (some ⟨w.heap.size, 0, none⟩)) ∧ w' = w.alloc (.cells #[.slice v n c] 51) := by
  go_enter Try.func37, Try.ntmps37
  go_wp2
  go_ret
  exact ⟨rfl, rfl⟩
theorem setEditCommands_any (v : Option Addr) (n c : Nat) (w : World) :
    Calls Try.prog 41 #[.agg #[.slice v n c]] w fun e w' => e = .returned (.slice v n c) ∧ Below w.heap.size w w' := by
  have hb : Below w.heap.size w (w.alloc (.cells #[.slice v n c] 51)) := (Below.refl _ _).alloc (Nat.le_refl _) _
  have Hb := hidIt hb
  clear hb
  go_enter Try.func41, Try.ntmps41
  go_wp2
  go_ret
  exact ⟨rfl, Hb.out⟩
end Go.Proofs.Qxb6001662a.Wl
