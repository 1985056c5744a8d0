import Derived.Test.Qxb6603095aLists2
import Derived.Deep.OwnRows
namespace Go.Proofs.Qxb6603095a.Wl
open Go.RowKit
open Go.Proofs.Qxb6603095a.Pl Go.Proofs.Qxb6603095a.Bs
set_option linter.unusedVariables false

theorem text_of_row {w : World} {g n : Nat} {Z : List Int} (hZ : Z.length = n) (hb : ∀ i : Nat, 0 ≤ Z[i]?.getD 0 ∧ Z[i]?.getD 0 ≤ 255) (h : w.rowIs g 5 n (fun i => .int .u8 (Z[i]?.getD 0))) : TextIn w w.heap.size (some ⟨g, 0, none⟩) n Z :=
  ⟨hZ, hb, fun _ => ⟨g, 0, rfl, h.lt, fun i hi => by rw [Nat.zero_add]; exact h.cell hi⟩⟩

theorem TextIn.none_len {w : World} {B n : Nat} {Z : List Int} (h : TextIn w B none n Z) : n = 0 := by
  rcases Nat.eq_zero_or_pos n with h0 | h0
  · exact h0
  · obtain ⟨_, _, e, _⟩ := h.2.2 h0
    cases e

set_option maxHeartbeats 1000000 in
theorem cloneBytes_any (B : Nat) (a : Option Addr) (n c : Nat) (Z : List Int) (w : World) (hn : n ≤ 1048576) (hB : B ≤ w.heap.size) (hT : TextIn w B a n Z) :
    Calls Try.prog 17 #[.slice a n c] w fun e w' => ∃ a' c', e = .returned (.slice a' n c') ∧ TextIn w' w'.heap.size a' n Z ∧ Below w.heap.size w w' ∧ (a' = none ↔ a = none) ∧ (0 < n → a' = some ⟨w.heap.size, 0, none⟩) := by
  cases a with
  | none =>
    have hn0 := hT.none_len
    subst hn0
    have heq := fun wx => Lib.run_eql_slice_nil (P := Try.prog) wx 22 5 none 0 c 0 0 Try.underlying22
    have HT := hidIt hT
    clear hT
    go_enter Try.func17, Try.ntmps17
    go_wp2
    go_ret
    exact ⟨none, 0, rfl, (HT.out.mono hB), Below.refl _ _, by simp, fun h => absurd h (by omega)⟩
  | some x =>
    have heq := fun wx => Lib.run_eql_slice_nil (P := Try.prog) wx 22 5 (some x) n c 0 0 Try.underlying22
    have HT := hidIt hT
    clear hT
    have hmk := fun wx => run_make_row' (P := Try.prog) (w := wx) 22 5 (.int .u8 0) 1 Try.underlying22 info5 rfl .i64 .i64 n (by omega) (by omega)
    have HR0 := hidIt (World.rowIs_made w (.int .u8 0) n 5)
    generalize hG : w.heap.size = G at *
    have HG := hidIt hG
    go_enter Try.func17, Try.ntmps17
    go_wp2
    generalize hw0 : w.alloc (Obj.cells (madeCells #[Value.int IntKind.u8 0] n) 5) = w0 at *
    have hb0 : Below G w w0 := by rw [← hw0]; exact (Below.refl _ _).alloc (by omega) _
    clear hw0 hG
    go_loopw [4] (fun i wr => ∃ k : Nat, k ≤ n ∧ i = .int .i64 k ∧ Hid (wr.rowIs G 5 n (fun i => .int .u8 (if i < k then Z[i]?.getD 0 else 0))) ∧ Below G w wr) (fun i _ => n - (intOf i).toNat)
    case atStart => exact ⟨0, Nat.zero_le _, rfl, HR0.out.congr (fun i _ => by simp), hb0⟩
    case round =>
      obtain ⟨k, hk, rfl, HR, hnx⟩ := hrel
      by_cases hlt : k < n
      · obtain ⟨b, off, hx, hbB, hc⟩ := HT.out.2.2 (by omega)
        cases hx
        have g : wr.cell? ⟨b, off + k, none⟩ = some (.int .u8 (Z[k]?.getD 0)) := (hnx.cell (show b < G by omega)).trans (hc k hlt)
        have gw := HR.out.cell hlt
        have gf := HR.out.frozen k
        have hne : G ≠ b := by omega
        have HR' : Hid ((wr.setCell ⟨G, k, none⟩ (.int .u8 (Z[k]?.getD 0))).rowIs G 5 n (fun i => .int .u8 (if i < k + 1 then Z[i]?.getD 0 else 0))) := by
          refine (HR.out.set k (.int .u8 (Z[k]?.getD 0))).congr (fun i hi => ?_)
          by_cases e : i = k
          · subst e; simp
          · simp only [if_neg e]
            by_cases h : i < k
            · rw [if_pos h, if_pos (by omega)]
            · rw [if_neg h, if_neg (by omega)]
        clear HR hc
        generalize Z[k]?.getD 0 = x at *
        go_wp2
        go_roundw
        case rel => exact ⟨k + 1, by omega, by go_num, HR', hnx.setCell (by exact Nat.le_refl _) _⟩
        case measure => simp [intOf]; omega
      · have HF : Hid (TextIn wr wr.heap.size (some ⟨G, 0, none⟩) n Z) := by
          refine text_of_row HT.out.1 HT.out.2.1 (HR.out.congr (fun i hi => ?_))
          rw [if_pos (by omega)]
        go_wp2
        go_ret
        exact ⟨some ⟨G, 0, none⟩, n, rfl, HF.out, hnx, by simp, fun _ => rfl⟩

/-! ### zzCloneList -/
theorem info22 : (Try.prog.info? 22).map (fun i => (i.zero, i.size, i.bytes)) = some (some (.slice none 0 0), 1, 24) := by kernel_rfl

/-- a text in blocks above G -/
def TextUp (w : World) (G : Nat) (a : Option Addr) (n : Nat) (Z : List Int) : Prop :=
  Z.length = n ∧ (∀ i : Nat, 0 ≤ Z[i]?.getD 0 ∧ Z[i]?.getD 0 ≤ 255) ∧
  (0 < n → ∃ b off, a = some ⟨b, off, none⟩ ∧ G < b ∧ b < w.heap.size ∧ ∀ i, i < n → w.cell? ⟨b, off + i, none⟩ = some (.int .u8 (Z[i]?.getD 0)))
theorem TextUp.later {w w' : World} {G : Nat} {a : Option Addr} {n : Nat} {Z : List Int} (h : TextUp w G a n Z) (hb : Below w.heap.size w w') : TextUp w' G a n Z := by
  obtain ⟨h1, h2, h3⟩ := h
  refine ⟨h1, h2, fun hp => ?_⟩
  obtain ⟨b, off, e, hG, hl, hc⟩ := h3 hp
  exact ⟨b, off, e, hG, Nat.lt_of_lt_of_le hl hb.size, fun i hi => (hb.cell (by exact hl)).trans (hc i hi)⟩
theorem TextUp.set {w : World} {G k : Nat} {v : Value} {a : Option Addr} {n : Nat} {Z : List Int} (h : TextUp w G a n Z) : TextUp (w.setCell ⟨G, k, none⟩ v) G a n Z := by
  obtain ⟨h1, h2, h3⟩ := h
  refine ⟨h1, h2, fun hp => ?_⟩
  obtain ⟨b, off, e, hG, hl, hc⟩ := h3 hp
  refine ⟨b, off, e, hG, by rw [Go.Deep.nblk_setCell]; exact hl, fun i hi => ?_⟩
  rw [World.cell?_of_block (w := w) (Go.Deep.blk_setCell_other _ _ _ _ (show b ≠ G by omega))]
  exact hc i hi
theorem TextUp.toIn {w : World} {G : Nat} {a : Option Addr} {n : Nat} {Z : List Int} (h : TextUp w G a n Z) : TextIn w w.heap.size a n Z := by
  obtain ⟨h1, h2, h3⟩ := h
  refine ⟨h1, h2, fun hp => ?_⟩
  obtain ⟨b, off, e, hG, hl, hc⟩ := h3 hp
  exact ⟨b, off, e, hl, hc⟩

/-- the first k elements stand in their new places -/
def Cloned (w : World) (G n k : Nat) (A : List (List Int)) : Prop :=
  ∃ V : Nat → Value, w.rowIs G 22 n (fun i => if i < k then V i else .slice none 0 0) ∧ ∀ i, i < k → ∃ ai ni ci, V i = .slice ai ni ci ∧ ni ≤ maxLen ∧ TextUp w G ai ni (A[i]?.getD [])

theorem Cloned.step {w w' : World} {G n k : Nat} {A : List (List Int)} (h : Cloned w G n k A) (hb : Below w.heap.size w w') (ai : Option Addr) (ni ci : Nat) (hm : ni ≤ maxLen) (ht : TextUp w' G ai ni (A[k]?.getD [])) :
    Cloned (w'.setCell ⟨G, k, none⟩ (.slice ai ni ci)) G n (k + 1) A := by
  obtain ⟨V, hr, hV⟩ := h
  refine ⟨fun i => if i = k then .slice ai ni ci else V i, ?_, ?_⟩
  · have hr' : w'.rowIs G 22 n (fun i => if i < k then V i else .slice none 0 0) := hr.of_block (hb.block G hr.lt)
    refine (hr'.set k (.slice ai ni ci)).congr (fun i hi => ?_)
    by_cases e : i = k
    · subst e; simp
    · simp only [if_neg e]
      by_cases h : i < k
      · rw [if_pos h, if_pos (by omega)]
      · rw [if_neg h, if_neg (by omega)]
  · intro i hi
    by_cases e : i = k
    · subst e
      exact ⟨ai, ni, ci, by simp, hm, ht.set⟩
    · obtain ⟨a1, n1, c1, e1, m1, t1⟩ := hV i (by omega)
      exact ⟨a1, n1, c1, by simp [e, e1], m1, (t1.later hb).set⟩
theorem Cloned.done {w : World} {G n : Nat} {A : List (List Int)} (h : Cloned w G n n A) (hA : A.length = n) : ListIn w w.heap.size (some ⟨G, 0, none⟩) n A := by
  obtain ⟨V, hr, hV⟩ := h
  refine ⟨hA, fun _ => ⟨G, 0, rfl, hr.lt, fun i hi => ?_⟩⟩
  obtain ⟨a1, n1, c1, e1, m1, t1⟩ := hV i hi
  refine ⟨a1, n1, c1, ?_, m1, t1.toIn⟩
  rw [Nat.zero_add, hr.cell hi, if_pos hi, e1]

theorem ListIn.none_len {w : World} {B n : Nat} {A : List (List Int)} (h : ListIn w B none n A) : n = 0 := by
  rcases Nat.eq_zero_or_pos n with h0 | h0
  · exact h0
  · obtain ⟨_, _, e, _⟩ := h.2 h0
    cases e

set_option maxHeartbeats 1000000 in
theorem cloneList_any (B : Nat) (a : Option Addr) (n c : Nat) (A : List (List Int)) (w : World) (hn : n ≤ 65536) (hB : B ≤ w.heap.size) (hA : ListIn w B a n A) (hL : ∀ i, i < n → (A[i]?.getD []).length ≤ 1048576) :
    Calls Try.prog 16 #[.slice a n c] w fun e w' => ∃ a', e = .returned (.slice a' n n) ∧ ListIn w' w'.heap.size a' n A ∧ Below w.heap.size w w' ∧ ((a' = none ∧ n = 0) ∨ (a' = some ⟨w.heap.size, 0, none⟩ ∧ Cloned w' w.heap.size n n A)) := by
  cases a with
  | none =>
    have hn0 := hA.none_len
    subst hn0
    have heq := fun wx => Lib.run_eql_slice_nil (P := Try.prog) wx 25 22 none 0 c 0 0 Try.underlying25
    have HA := hidIt hA
    clear hA hL
    go_enter Try.func16, Try.ntmps16
    go_wp2
    go_ret
    exact ⟨none, rfl, (HA.out.mono hB), Below.refl _ _, .inl (by simp)⟩
  | some x =>
    have heq := fun wx => Lib.run_eql_slice_nil (P := Try.prog) wx 25 22 (some x) n c 0 0 Try.underlying25
    have HA := hidIt hA
    have HL := hidIt hL
    clear hA hL
    have hmk := fun wx => run_make_row' (P := Try.prog) (w := wx) 25 22 (.slice none 0 0) 24 Try.underlying25 info22 rfl .i64 .i64 n (by omega) (by omega)
    have HR0 := hidIt (World.rowIs_made w (.slice none 0 0) n 22)
    generalize hG : w.heap.size = G at *
    have HG := hidIt hG
    go_enter Try.func16, Try.ntmps16
    go_wp2
    generalize hw0 : w.alloc (Obj.cells (madeCells #[Value.slice none 0 0] n) 22) = w0 at *
    have hb0 : Below G w w0 := by rw [← hw0]; exact (Below.refl _ _).alloc (by omega) _
    clear hw0 hG
    go_loopw [4] (fun i wr => ∃ k : Nat, k ≤ n ∧ i = .int .i64 k ∧ Cloned wr G n k A ∧ Below G w wr) (fun i _ => n - (intOf i).toNat)
    case atStart => exact ⟨0, Nat.zero_le _, rfl, ⟨fun _ => .slice none 0 0, HR0.out.congr (fun i _ => by simp), fun i hi => absurd hi (by omega)⟩, hb0⟩
    case round =>
      obtain ⟨k, hk, rfl, HR, hnx⟩ := hrel
      by_cases hlt : k < n
      · obtain ⟨b, off, hx, hbB, hcl⟩ := HA.out.2 (by omega)
        cases hx
        obtain ⟨a1, n1, c1, g0, m1, t1⟩ := hcl k hlt
        have hbG : b < G := by have := HG.out; omega
        have g : wr.cell? ⟨b, off + k, none⟩ = some (.slice a1 n1 c1) := (hnx.cell (by exact hbG)).trans g0
        have hGl : G < wr.heap.size := by obtain ⟨V, hr, _⟩ := HR; exact hr.lt
        have hl1 : n1 ≤ 1048576 := by have := HL.out k hlt; rwa [t1.1] at this
        have HT1 := hidIt ((t1.below (hnx.mono (by have := HG.out; omega))).mono (show B ≤ G by have := HG.out; omega))
        obtain ⟨gw0, gf⟩ : (∃ v0, wr.cell? ⟨G, k, none⟩ = some v0) ∧ wr.frozen? ⟨G, k, none⟩ = false := by
          obtain ⟨V, hr, _⟩ := HR; exact ⟨⟨_, hr.cell hlt⟩, hr.frozen k⟩
        obtain ⟨v0, gw⟩ := gw0
        clear hcl g0 t1
        have HC := hidIt (cloneBytes_any G a1 n1 c1 (A[k]?.getD []) wr hl1 (by omega) HT1.out)
        clear HT1
        go_wp2_with (go_at_call 17; refine HC.out.mono ?_; rintro e w1 ⟨a', c', rfl, ht', hb', _, hnew⟩; have gw1 : w1.cell? ⟨G, k, none⟩ = some v0 := (hb'.cell (by exact hGl)).trans gw; have gf1 : w1.frozen? ⟨G, k, none⟩ = false := (hb'.frozen (by exact hGl)).trans gf; clear gw gf g)
        have HR' := HR.step hb' a' n1 c' m1 ⟨ht'.1, ht'.2.1, fun hp => by
          obtain ⟨b2, off2, e2, hl2, hc2⟩ := ht'.2.2 hp
          have e3 := hnew hp
          rw [e3] at e2
          cases e2
          exact ⟨_, _, e3, hGl, hl2, hc2⟩⟩
        go_roundw
        case rel => exact ⟨k + 1, by omega, by go_num, HR', (hnx.trans (hb'.mono (by omega))).setCell (by exact Nat.le_refl _) _⟩
        case measure => simp [intOf]; omega
      · obtain rfl : k = n := by omega
        have HF := hidIt (HR.done HA.out.1)
        have HR2 := hidIt HR
        clear HR
        go_wp2
        go_ret
        exact ⟨some ⟨G, 0, none⟩, rfl, HF.out, hnx, .inr ⟨rfl, HR2.out⟩⟩
end Go.Proofs.Qxb6603095a.Wl
