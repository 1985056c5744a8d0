/- What the walks of this seat share. -/
import Derived.Test.Qxb6001662aRows
import Derived.WalkKit
import Derived.ProofKit
import Derived.WalkSpells
import Derived.WalkLawsBesides
import Derived.Laws.BitsAllLaws
import Derived.Laws.CopyOwn
import Derived.Laws.BytesArg
import Derived.Deep.QuietTactic
import Derived.BigQuiet
import Derived.Below
import Derived.Deep.OwnRows
import Derived.Test.Qxb6001662aFoldPl
namespace Go.Proofs.Qxb6001662a.Bs
open Go.RowKit
set_option linter.unusedVariables false

theorem ret_bool {a b : Bool} (h : a = b) : Ending.returned (.bool a) = .returned (.bool b) := by rw [h]
theorem ret_int {k : IntKind} {a b : Int} (h : a = b) : Ending.returned (.int k a) = .returned (.int k b) := by rw [h]
theorem hidIt {p : Prop} (h : p) : Hid p := h
theorem info5 : (Try.prog.info? 5).map (fun i => (i.zero, i.size, i.bytes)) = some (some (.int .u8 0), 1, 1) := by kernel_rfl

def AnyBool (e : Ending) : Prop := ∃ b, e = .returned (.bool b)
def Drawn (w wr : World) : Prop := ∃ m, wr = w.drewN m
theorem Drawn.refl (w : World) : Drawn w w := ⟨0, rfl⟩
theorem Drawn.more {w wr : World} (h : Drawn w wr) (n : Nat) : Drawn w (wr.drewN n) := by
  obtain ⟨m, rfl⟩ := h; exact ⟨m + n, by simp⟩
theorem Drawn.trans {a b c : World} (h : Drawn a b) (k : Drawn b c) : Drawn a c := by
  obtain ⟨m, rfl⟩ := h; obtain ⟨n, rfl⟩ := k; exact ⟨m + n, by simp⟩
theorem Drawn.cell {w wr : World} (h : Drawn w wr) (a : Addr) : wr.cell? a = w.cell? a := by
  obtain ⟨m, rfl⟩ := h; simp
theorem Drawn.below {w wr : World} (h : Drawn w wr) (B : Nat) : Below B w wr := by
  obtain ⟨m, rfl⟩ := h; exact below_drewN (Below.refl _ _) m

/-- a string's bytes as numbers -/
def numsOf (s : ByteArray) : List Int := s.data.toList.map fun c => (c.toNat : Int)
theorem numsOf_length (s : ByteArray) : (numsOf s).length = s.size := by simp [numsOf]
theorem numsOf_get (s : ByteArray) (k : Nat) (hk : k < s.size) : (numsOf s)[k]?.getD 0 = (s[k].toNat : Int) := by
  unfold numsOf
  rw [List.getElem?_map, List.getElem?_eq_getElem (by simpa using hk)]
  rfl

/-! ### byte slices, in memory below block B -/
def TextIn (w : World) (B : Nat) (a : Option Addr) (n : Nat) (Z : List Int) : Prop :=
  Z.length = n ∧ (∀ i : Nat, 0 ≤ Z[i]?.getD 0 ∧ Z[i]?.getD 0 ≤ 255) ∧
  (0 < n → ∃ b off, a = some ⟨b, off, none⟩ ∧ b < B ∧ ∀ i, i < n → w.cell? ⟨b, off + i, none⟩ = some (.int .u8 (Z[i]?.getD 0)))
theorem TextIn.below {w w' : World} {B : Nat} {a : Option Addr} {n : Nat} {Z : List Int} (h : TextIn w B a n Z) (hb : Below B w w') : TextIn w' B a n Z := by
  obtain ⟨h1, h2, h3⟩ := h
  refine ⟨h1, h2, fun hp => ?_⟩
  obtain ⟨b, off, e, hl, hc⟩ := h3 hp
  exact ⟨b, off, e, hl, fun i hi => (hb.cell (by exact hl)).trans (hc i hi)⟩
theorem TextIn.mono {w : World} {B B' : Nat} {a : Option Addr} {n : Nat} {Z : List Int} (h : TextIn w B a n Z) (hB : B ≤ B') : TextIn w B' a n Z := by
  obtain ⟨h1, h2, h3⟩ := h
  refine ⟨h1, h2, fun hp => ?_⟩
  obtain ⟨b, off, e, hl, hc⟩ := h3 hp
  exact ⟨b, off, e, Nat.lt_of_lt_of_le hl hB, hc⟩
theorem TextIn.drawn {w w' : World} {B : Nat} {a : Option Addr} {n : Nat} {Z : List Int} (h : TextIn w B a n Z) (hd : Drawn w w') : TextIn w' B a n Z := h.below (hd.below _)
theorem TextIn.none_len {w : World} {B n : Nat} {Z : List Int} (h : TextIn w B none n Z) : n = 0 := by
  rcases Nat.eq_zero_or_pos n with h0 | h0
  · exact h0
  · obtain ⟨_, _, e, _⟩ := h.2.2 h0
    cases e
theorem text_of_row {w : World} {g n : Nat} {Z : List Int} (hZ : Z.length = n) (hb : ∀ i : Nat, 0 ≤ Z[i]?.getD 0 ∧ Z[i]?.getD 0 ≤ 255) (h : w.rowIs g 5 n (fun i => .int .u8 (Z[i]?.getD 0))) : TextIn w w.heap.size (some ⟨g, 0, none⟩) n Z :=
  ⟨hZ, hb, fun _ => ⟨g, 0, rfl, h.lt, fun i hi => by rw [Nat.zero_add]; exact h.cell hi⟩⟩

/-- 'string(b)' -/
theorem conv_any {w : World} {B n c : Nat} {a : Option Addr} {Z : List Int} (hT : TextIn w B a n Z) : (convert 25 9 (.slice a n c)).run Try.prog w = .ok (.string (strOfNums Z)) w := by
  obtain ⟨hl, hbd, hcell⟩ := hT
  cases a with
  | none =>
    have hn0 : n = 0 := by
      rcases Nat.eq_zero_or_pos n with h | h
      · exact h
      · obtain ⟨_, _, e, _⟩ := hcell h; cases e
    subst hn0
    have : Z = [] := List.eq_nil_of_length_eq_zero hl
    subst this
    exact run_convert_bytes_nil w 25 5 Try.underlying25 Try.underlying5 0 c 9 Try.underlying9
  | some x =>
    have hld : (loadCells x n).run Try.prog w = .ok (Z.map (Value.int .u8)).toArray w := by
      have := run_loadCells_list (P := Try.prog) w x (Z.map (Value.int .u8)) (fun j v hj => by
        have hjl : j < Z.length := by have := (List.getElem?_eq_some_iff.1 hj).1; simpa using this
        obtain ⟨b, off, e, _, hc⟩ := hcell (by omega)
        cases e
        rw [Go.WideShapes.add_plain, hc j (by omega)]
        rw [List.getElem?_map, List.getElem?_eq_getElem hjl] at hj
        rw [List.getElem?_eq_getElem hjl]
        simpa using hj)
      simpa [hl] using this
    rw [run_convert_bytes_string w 25 9 5 _ n c Try.underlying25 Try.underlying5 Try.underlying9, run_bytesToString w x n c Z hld, foldl_push_bytes]
    simp [strOfNums, ByteArray.empty, ByteArray.emptyWithCapacity]
    rfl

/-- 'make([]byte, n)' -/
theorem make_bytes (n : Nat) (hn : n ≤ 1048576) (w : World) : ∃ w', (Instr.makeSlice 25 (.int .i64 (n : Int)) (.int .i64 (n : Int))).run Try.prog w = .ok (.slice (some ⟨w.heap.size, 0, none⟩) n n) w' ∧ w'.heap.size = w.heap.size + 1 ∧ Below w.heap.size w w' ∧ w'.rowIs w.heap.size 5 n (fun _ => .int .u8 0) :=
  ⟨_, run_make_row' (P := Try.prog) (w := w) 25 5 (.int .u8 0) 1 Try.underlying25 info5 rfl .i64 .i64 n (by omega) (by omega), Go.Deep.nblk_alloc _ _, (Below.refl _ _).alloc (Nat.le_refl _) _, World.rowIs_made w (.int .u8 0) n 5⟩
end Go.Proofs.Qxb6001662a.Bs
