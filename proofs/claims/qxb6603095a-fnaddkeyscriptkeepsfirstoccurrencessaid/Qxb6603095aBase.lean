/- What the walks of this seat share: small laws on endings, on hidden facts, on a slice that is copied whole. -/
import Derived.Test.Qxb6603095aRows
import Derived.WalkKit
import Derived.ProofKit
import Derived.WalkSpells
import Derived.WalkLawsBesides
import Derived.Laws.BitsAllLaws
import Derived.Laws.CopyOwn
import Derived.Laws.BytesArg
import Derived.Deep.QuietTactic
import Derived.BigQuiet
namespace Go.Proofs.Qxb6603095a.Bs
open Go.RowKit
set_option linter.unusedVariables false

theorem ret_int {k : IntKind} {a b : Int} (h : a = b) : Ending.returned (.int k a) = .returned (.int k b) := by rw [h]
theorem ret_bool {a b : Bool} (h : a = b) : Ending.returned (.bool a) = .returned (.bool b) := by rw [h]
theorem hidIt {p : Prop} (h : p) : Hid p := h
theorem info3 : (Try.prog.info? 3).map (fun i => (i.zero, i.size, i.bytes)) = some (some (.int .i64 0), 1, 8) := by kernel_rfl
theorem info4 : (Try.prog.info? 4).map (fun i => (i.zero, i.size, i.bytes)) = some (some (.bool false), 1, 1) := by kernel_rfl
theorem info5 : (Try.prog.info? 5).map (fun i => (i.zero, i.size, i.bytes)) = some (some (.int .u8 0), 1, 1) := by kernel_rfl

def Drawn (w wr : World) : Prop := ∃ m, wr = w.drewN m
theorem Drawn.refl (w : World) : Drawn w w := ⟨0, rfl⟩
theorem Drawn.more {w wr : World} (h : Drawn w wr) (n : Nat) : Drawn w (wr.drewN n) := by
  obtain ⟨m, rfl⟩ := h; exact ⟨m + n, by simp⟩
theorem Drawn.trans {a b c : World} (h : Drawn a b) (k : Drawn b c) : Drawn a c := by
  obtain ⟨m, rfl⟩ := h; obtain ⟨n, rfl⟩ := k; exact ⟨m + n, by simp⟩
theorem Drawn.cell {w wr : World} (h : Drawn w wr) (a : Addr) : wr.cell? a = w.cell? a := by
  obtain ⟨m, rfl⟩ := h; simp
theorem size5 : (Try.prog.info? 5).map (·.size) = some 1 := by kernel_rfl

theorem own_block {w : World} {B E g n : Nat} {xs : List Value} (h : w.ownsRow B E 1 (.slice (some ⟨g, 0, none⟩) n n) n xs) :
    ∃ cur : List Value, cur.length = n ∧ Hid (w.heap[g]? = some (.cells cur.toArray E (0, 0))) := by
  obtain ⟨_, h | ⟨g', cap, cur, hv, _, hh, _, _, hs, _⟩⟩ := h
  · simp at h
  · simp at hv
    obtain ⟨rfl, rfl⟩ := hv
    exact ⟨cur.toList, by simpa using hs, by show _ = _; simpa using hh⟩

/-- the cells to be copied, as 'copy' asks for them -/
theorem src_cells {k : IntKind} {w : World} {b off n : Nat} {zs : List Int} (hzs : zs.length = n) (hcell : ∀ i, i < n → w.cell? ⟨b, off + i, none⟩ = some (.int k (zs[i]?.getD 0))) :
    ∀ j v, (zs.map (Value.int k))[j]? = some v → w.cell? ((⟨b, off, none⟩ : Addr).add j) = some v := by
  intro j v hv
  rw [List.getElem?_map] at hv
  cases hz : zs[j]? with
  | none => rw [hz] at hv; simp at hv
  | some z =>
    have hj : j < zs.length := by
      rw [List.getElem?_eq_some_iff] at hz; exact hz.1
    rw [hz] at hv
    have := hcell j (by omega)
    rw [hz] at this
    simp at hv
    subst hv
    rw [Go.WideShapes.add_plain]
    simpa using this

theorem add_block (a : Addr) (j : Nat) : (a.add j).block = a.block := by unfold Addr.add; split <;> rfl

/-- 'copy(zzc, text)', zzc made a moment ago, as long as text -/
theorem copy_whole {w w1 : World} (ad : Addr) (n c B : Nat) (zs : List Int) (cur : List Value) (hzs : zs.length = n) (hcur : cur.length = n) (hg : w1.heap[B]? = some (.cells cur.toArray 5 (0, 0)))
    (hsrc : ∀ j v, (zs.map (Value.int .u8))[j]? = some v → w1.cell? (ad.add j) = some v) (hbel : Below B w w1) :
    ∃ w2, (Builtin.copy_ #[22, 22] 3 #[.slice (some ⟨B, 0, none⟩) n n, .slice (some ad) n c]).run Try.prog w1 = .ok (goInt n) w2 ∧
      Hid (w2.heap[B]? = some (.cells (zs.map (Value.int .u8)).toArray 5 (0, 0))) ∧ Below B w w2 := by
  have h := run_copy_row (P := Try.prog) w1 22 22 3 5 B 0 n n ad n c cur.toArray 5 (zs.map (Value.int .u8)) Try.underlying22 size5 hg (by simp [hzs]) hsrc (by simp [hzs, hcur]) (ints_oneCell _ _)
  simp only [List.take_zero, List.nil_append, List.length_map, hzs, Nat.zero_add] at h
  rw [List.drop_of_length_le (by simp [hcur]), List.append_nil] at h
  refine ⟨_, h, ?_, below_setRow hbel (Nat.le_refl _) _⟩
  show _ = _
  simpa using setRow_heap w1 B _ _ 5 _ hg

/-- what lies in a block that is known whole -/
theorem block_cell {w : World} {g E : Nat} {zs : List Int} {k : IntKind} (h : w.heap[g]? = some (.cells (zs.map (Value.int k)).toArray E (0, 0))) (i : Nat) (hi : i < zs.length) :
    w.cell? ⟨g, i, none⟩ = some (.int k (zs[i]?.getD 0)) := by
  simp [World.cell?, h, hi]

theorem Drawn.below {w wr : World} (h : Drawn w wr) (B : Nat) : Below B w wr := by
  obtain ⟨m, rfl⟩ := h; exact below_drewN (Below.refl _ _) m


end Go.Proofs.Qxb6603095a.Bs
