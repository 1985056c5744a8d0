import Derived.Test.Qxb6001662aNames2
import Derived.Deep.DeepCutAuto
import Derived.Deep.CutBlock
namespace Go.Proofs.Qxb6001662a.Wl
open Go.RowKit Go.Maps Go.WideMaps
open Go.Proofs.Qxb6001662a.Bs
set_option linter.unusedVariables false

theorem eqlNil58 (w : World) (r : Option Nat) : (binOp .eql 58 (.map r) (.map none)).run Try.prog w = .ok (.bool r.isNone) w := run_eql_map_nil w _ _ _ r Try.underlying58
theorem eqlNil61 (w : World) (r : Option Nat) : (binOp .eql 61 (.map r) (.map none)).run Try.prog w = .ok (.bool r.isNone) w := run_eql_map_nil w _ _ _ r Try.underlying61

theorem make58 (w : World) : (Instr.makeMap 58 none).run Try.prog w = .ok (.map (some w.heap.size)) (w.alloc (.map #[] 0)) := by rfl
theorem make61 (w : World) : (Instr.makeMap 61 none).run Try.prog w = .ok (.map (some w.heap.size)) (w.alloc (.map #[] 0)) := by rfl
theorem NamesM.mono {w : World} {p M N N' : Nat} {β : ByteArray → Option Nat} {dl : Nat} {f : ByteArray → ByteArray → Bool} {cn : ByteArray → Nat} (h : NamesM w p M N β dl f cn) (hN : N ≤ N') : NamesM w p M N' β dl f cn := by
  obtain ⟨h1, h2, h3, ⟨D, ho, r⟩, h5, h6⟩ := h
  refine ⟨h1, h2, h3, ⟨D, ho.mono hN, r⟩, fun o b hb => ?_, h6⟩
  obtain ⟨a1, a2, a3⟩ := h5 o b hb
  exact ⟨a1, a2, a3.mono hN (fun _ => rfl)⟩

/-- what stands at the pointer: nil, or the map of maps -/
def Nm (w : World) (p N : Nat) (β : ByteArray → Option Nat) (dl : Nat) (f : ByteArray → ByteArray → Bool) (cn : ByteArray → Nat) : Prop :=
  ((∃ M, NamesM w p M N β dl f cn) ∨ (w.cell? ⟨p, 0, none⟩ = some (.map none) ∧ w.frozen? ⟨p, 0, none⟩ = false ∧ (∀ o, β o = none) ∧ dl = 0)) ∧ (∀ o, β o = none → cn o = 0 ∧ ∀ y, f o y = false)

def putF (f : ByteArray → ByteArray → Bool) (o x : ByteArray) : ByteArray → ByteArray → Bool := fun o' y => f o' y || (decide (o' = o) && decide (y = x))
def putC (f : ByteArray → ByteArray → Bool) (cn : ByteArray → Nat) (o x : ByteArray) : ByteArray → Nat := fun o' => if o' = o then (if f o x then cn o else cn o + 1) else cn o'

set_option maxRecDepth 100000 in
set_option maxHeartbeats 2000000 in
theorem addName_any (p N : Nat) (β : ByteArray → Option Nat) (dl : Nat) (f : ByteArray → ByteArray → Bool) (cn : ByteArray → Nat) (o x : ByteArray) (w : World) (h : Nm w p N β dl f cn) (ho : o.size ≤ maxLen) (hx : x.size ≤ maxLen) (hN : N ≤ 1000000) :
    Calls Try.prog 62 #[.pointer (some ⟨p, 0, none⟩), .string o, .string x] w fun e w' => (∃ v, e = .returned v) ∧ ∃ β', (∃ M, NamesM w' p M (N + 2) β' (if (β o).isSome then dl else dl + 1) (putF f o x) (putC f cn o x)) ∧ (∀ y, (β' y).isSome = ((β y).isSome || decide (y = o))) ∧ Below p w w' := by
  have e58 := eqlNil58
  have e61 := eqlNil61
  have m58 := make58
  have m61 := make61
  have Hh := hidIt h
  have Ho := hidIt ho
  have Hx := hidIt hx
  clear h ho hx
  go_enter Try.func62, Try.ntmps62
  rcases Hh.out.1 with ⟨M, hM⟩ | ⟨hc, hf, hb0, hd⟩
  · have HM := hidIt hM
    have c0 := hM.1
    have hlook := hM.2.2.2.1.look o Ho.out
    have HZ := hidIt (Hh.out.2 o)
    clear hM Hh
    cases hb : β o with
    | none =>
      obtain ⟨w1, hu1, hM1, hbl1⟩ := names_key w p M N β dl f cn o HM.out Ho.out (by unfold maxLen; omega) hb (HZ.out hb).2 (HZ.out hb).1
      obtain ⟨w2, hu2, hM2, hbl2⟩ := names_put w1 p M (N + 1) _ _ f cn o x w.heap.size hM1 Hx.out (by unfold maxLen; omega) (if_pos rfl)
      have c1 := hM1.1
      have hlook1 := hM1.2.2.2.1.look o Ho.out
      simp only [if_true] at hlook1
      rw [hb] at hlook
      have HM2 := hidIt hM2
      have Hbl := hidIt (hbl1.trans hbl2)
      have c0' : (w.alloc (.map #[] 0)).cell? ⟨p, 0, none⟩ = some (.map (some M)) := (((Below.refl w.heap.size w).alloc (Nat.le_refl _) (.map #[] 0)).cell (by exact World.block_lt_of_cell? _ _ c0)).trans c0
      have Hb := hidIt hb
      clear hM1 hM2 hbl1 hbl2 hb
      go_wp2
      go_end0
      refine ⟨⟨_, rfl⟩, _, ⟨M, HM2.out⟩, fun y => ?_, Hbl.out⟩
      by_cases e : y = o <;> simp [e]
    | some b =>
      obtain ⟨w2, hu2, hM2, hbl2⟩ := names_put w p M N β dl f cn o x b HM.out Hx.out (by unfold maxLen; omega) hb
      rw [hb] at hlook
      have HM2 := hidIt hM2
      have Hbl := hidIt hbl2
      have Hb := hidIt hb
      clear hM2 hbl2 hb
      go_wp2
      go_end0
      refine ⟨⟨_, rfl⟩, β, ⟨M, HM2.out.mono (Nat.le_succ _)⟩, fun y => ?_, Hbl.out⟩
      by_cases e : y = o
      · subst e; rw [Hb.out]; simp
      · simp [e]
  · have HZ := hidIt Hh.out.2
    obtain ⟨hM0, hbl0⟩ := names_new w p _ hc hf f cn
    have hb : β = fun _ => none := funext hb0
    subst hb
    subst hd
    obtain ⟨w1, hu1, hM1, hbl1⟩ := names_key _ p _ 0 _ 0 f cn o hM0 Ho.out (by unfold maxLen; omega) rfl (HZ.out o rfl).2 (HZ.out o rfl).1
    obtain ⟨w2, hu2, hM2, hbl2⟩ := names_put w1 p _ 1 _ _ f cn o x _ hM1 Hx.out (by unfold maxLen; omega) (if_pos rfl)
    have hp : p < w.heap.size := World.block_lt_of_cell? _ _ hc
    have hba : Below w.heap.size w (w.alloc (.map #[] 0)) := (Below.refl _ _).alloc (Nat.le_refl _) _
    have ca : (w.alloc (.map #[] 0)).cell? ⟨p, 0, none⟩ = some (.map none) := (hba.cell (by exact hp)).trans hc
    have fa : (w.alloc (.map #[] 0)).frozen? ⟨p, 0, none⟩ = false := by
      rw [← hf]; unfold World.frozen?; rw [hba.block p hp]
    have c0 := hM0.1
    have hlook := hM0.2.2.2.1.look o Ho.out
    have c1 := hM1.1
    have hlook1 := hM1.2.2.2.1.look o Ho.out
    simp only [if_true] at hlook1
    have HM2 := hidIt hM2
    have Hbl := hidIt ((hbl0.trans hbl1).trans hbl2)
    generalize hw0 : (w.alloc (.map #[] 0)).setCell ⟨p, 0, none⟩ (.map (some w.heap.size)) = w0 at *
    have c0' : (w0.alloc (.map #[] 0)).cell? ⟨p, 0, none⟩ = some (.map (some w.heap.size)) := (((Below.refl w0.heap.size w0).alloc (Nat.le_refl _) (.map #[] 0)).cell (by exact World.block_lt_of_cell? _ _ c0)).trans c0
    clear hM0 hM1 hM2 hbl0 hbl1 hbl2 Hh HZ
    go_wp2
    go_end0
    refine ⟨⟨_, rfl⟩, _, ⟨_, HM2.out.mono (by omega)⟩, fun y => ?_, Hbl.out⟩
    by_cases e : y = o <;> simp [e]

def AddedN (p N : Nat) (β : ByteArray → Option Nat) (dl : Nat) (f : ByteArray → ByteArray → Bool) (cn : ByteArray → Nat) (o x : ByteArray) (w w' : World) : Prop :=
  ∃ β', (∃ M, NamesM w' p M (N + 2) β' (if (β o).isSome then dl else dl + 1) (putF f o x) (putC f cn o x)) ∧ (∀ y, (β' y).isSome = ((β y).isSome || decide (y = o))) ∧ Below p w w'

theorem zzAddName_any (p N : Nat) (β : ByteArray → Option Nat) (dl : Nat) (f : ByteArray → ByteArray → Bool) (cn : ByteArray → Nat) (o x : ByteArray) (w : World) (h : Nm w p N β dl f cn) (ho : o.size ≤ maxLen) (hx : x.size ≤ maxLen) (hN : N ≤ 1000000) :
    Calls Try.prog 50 #[.pointer (some ⟨p, 0, none⟩), .string o, .string x] w fun e w' => (∃ v, e = .returned v) ∧ AddedN p N β dl f cn o x w w' := by
  have H := hidIt (addName_any p N β dl f cn o x w h ho hx hN)
  clear h
  go_enter Try.func50, Try.ntmps50
  go_wp2_with fail
  refine H.out.mono ?_
  rintro e w' ⟨⟨v, rfl⟩, hp⟩
  have HP : Hid (AddedN p N β dl f cn o x w w') := hp
  clear hp H
  go_wp2
  go_end0
  exact ⟨⟨_, rfl⟩, HP.out⟩
end Go.Proofs.Qxb6001662a.Wl
