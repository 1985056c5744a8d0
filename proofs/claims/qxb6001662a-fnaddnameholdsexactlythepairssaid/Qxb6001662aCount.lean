import Derived.Test.Qxb6001662aAddN
namespace Go.Proofs.Qxb6001662a.Wl
open Go.RowKit Go.Maps Go.WideMaps
open Go.Proofs.Qxb6001662a.Bs
set_option linter.unusedVariables false

/-- how many second names stand under o among the first i pairs -/
def cnt (A C : List ByteArray) (o : ByteArray) : Nat → Nat
  | 0 => 0
  | i + 1 => cnt A C o i + (if A[i]?.getD ByteArray.empty = o then (if hasP ((A.zip C).take i) o (C[i]?.getD ByteArray.empty) then 0 else 1) else 0)
/-- how many first names stand among the first i pairs -/
def dcnt (A : List ByteArray) : Nat → Nat
  | 0 => 0
  | i + 1 => dcnt A i + (if firstW A i then 1 else 0)
theorem cnt_le (A C : List ByteArray) (o : ByteArray) (i : Nat) : cnt A C o i ≤ i := by
  induction i with
  | zero => exact Nat.le_refl _
  | succ i ih => unfold cnt; split <;> (try split) <;> omega
theorem dcnt_le (A : List ByteArray) (i : Nat) : dcnt A i ≤ i := by
  induction i with
  | zero => exact Nat.le_refl _
  | succ i ih => unfold dcnt; split <;> omega

theorem putF_step (A C : List ByteArray) (n i : Nat) (hA : A.length = n) (hC : C.length = n) (hi : i < n) :
    putF (hasP ((A.zip C).take i)) (A[i]?.getD ByteArray.empty) (C[i]?.getD ByteArray.empty) = hasP ((A.zip C).take (i + 1)) := by
  funext o x
  unfold putF
  rw [zip_take A C n i hA hC hi]
  unfold hasP
  rw [List.any_append]
  congr 1
  simp only [List.any_cons, List.any_nil, Bool.or_false]
  rw [Bool.eq_iff_iff]
  simp only [Bool.and_eq_true, decide_eq_true_eq]
  exact ⟨fun h => ⟨h.1.symm, h.2.symm⟩, fun h => ⟨h.1.symm, h.2.symm⟩⟩
theorem putC_step (A C : List ByteArray) (i : Nat) :
    putC (hasP ((A.zip C).take i)) (fun o => cnt A C o i) (A[i]?.getD ByteArray.empty) (C[i]?.getD ByteArray.empty) = fun o => cnt A C o (i + 1) := by
  funext o
  unfold putC
  show _ = cnt A C o i + _
  by_cases e : o = A[i]?.getD ByteArray.empty
  · rw [if_pos e, if_pos e.symm, e]
    split <;> rfl
  · rw [if_neg e, if_neg (fun h => e h.symm)]
    rfl

/-- the state behind i pairs -/
def Held (w : World) (p : Nat) (A C : List ByteArray) (i : Nat) : Prop :=
  ∃ β, Nm w p (2 * i) β (dcnt A i) (hasP ((A.zip C).take i)) (fun o => cnt A C o i) ∧ (∀ y, (β y).isSome = true ↔ ∃ j, j < i ∧ A[j]?.getD ByteArray.empty = y) ∧ (0 < i → w.cell? ⟨p, 0, none⟩ ≠ some (.map none)) ∧ (i = 0 → w.cell? ⟨p, 0, none⟩ = some (.map none))

theorem held_zero (w : World) (p : Nat) (A C : List ByteArray) (hc : w.cell? ⟨p, 0, none⟩ = some (.map none)) (hf : w.frozen? ⟨p, 0, none⟩ = false) : Held w p A C 0 :=
  ⟨fun _ => none, ⟨.inr ⟨hc, hf, fun _ => rfl, rfl⟩, fun o _ => ⟨rfl, fun y => by simp [hasP]⟩⟩, fun y => by simp, fun h => absurd h (by omega), fun _ => hc⟩

theorem held_step (w w' : World) (p : Nat) (A C : List ByteArray) (n i : Nat) (hA : A.length = n) (hC : C.length = n) (hi : i < n) (β : ByteArray → Option Nat) (hβ : ∀ y, (β y).isSome = true ↔ ∃ j, j < i ∧ A[j]?.getD ByteArray.empty = y) (hz : ∀ o, β o = none → cnt A C o i = 0 ∧ ∀ y, hasP ((A.zip C).take i) o y = false)
    (h : AddedN p (2 * i) β (dcnt A i) (hasP ((A.zip C).take i)) (fun o => cnt A C o i) (A[i]?.getD ByteArray.empty) (C[i]?.getD ByteArray.empty) w w') : Held w' p A C (i + 1) ∧ Below p w w' := by
  obtain ⟨β', ⟨M, hM⟩, hs, hb⟩ := h
  rw [putF_step A C n i hA hC hi, putC_step] at hM
  have hd : (if (β (A[i]?.getD ByteArray.empty)).isSome = true then dcnt A i else dcnt A i + 1) = dcnt A (i + 1) := by
    show _ = dcnt A i + _
    by_cases e : (β (A[i]?.getD ByteArray.empty)).isSome = true
    · rw [if_pos e]
      obtain ⟨j, hj, ej⟩ := (hβ _).1 e
      rw [if_neg (fun h => (firstW_iff A i).1 h j hj ej)]
      rfl
    · rw [if_neg e, if_pos ((firstW_iff A i).2 (fun j hj ej => e ((hβ _).2 ⟨j, hj, ej⟩)))]
  rw [hd] at hM
  refine ⟨⟨β', ⟨.inl ⟨M, hM⟩, fun o ho => ?_⟩, fun y => ?_, fun _ h => ?_, fun h => absurd h (by omega)⟩, hb⟩
  · have h1 := hs o
    rw [ho, Option.isSome_none] at h1
    have h1 := h1.symm
    rw [Bool.or_eq_false_iff, decide_eq_false_iff_not] at h1
    obtain ⟨z1, z2⟩ := hz o (by cases hb : β o with | none => rfl | some b => rw [hb] at h1; exact absurd h1.1 (by simp))
    refine ⟨?_, fun y => ?_⟩
    · show cnt A C o i + _ = 0
      rw [z1, if_neg (fun e => h1.2 e.symm)]
    · rw [← putF_step A C n i hA hC hi]
      unfold putF
      rw [z2, decide_eq_false h1.2]
      rfl
  · rw [hs, Bool.or_eq_true, hβ, decide_eq_true_eq]
    constructor
    · rintro (⟨j, hj, e⟩ | rfl)
      · exact ⟨j, by omega, e⟩
      · exact ⟨i, by omega, rfl⟩
    · rintro ⟨j, hj, e⟩
      by_cases ej : j = i
      · subst ej; exact .inr e.symm
      · exact .inl ⟨j, by omega, e⟩
  · rw [hM.1] at h
    cases h
theorem Held.heap {w w' : World} {p : Nat} {A C : List ByteArray} {i : Nat} (h : Held w p A C i) (e : w'.heap = w.heap) : Held w' p A C i := by
  have hc : ∀ a, w'.cell? a = w.cell? a := fun a => by unfold World.cell?; rw [e]
  have hf : ∀ a, w'.frozen? a = w.frozen? a := fun a => by unfold World.frozen?; rw [e]
  obtain ⟨β, ⟨hs, hz⟩, hb, hne, h00⟩ := h
  refine ⟨β, ⟨?_, hz⟩, hb, fun hi => by rw [hc]; exact hne hi, fun hi => (hc _).trans (h00 hi)⟩
  rcases hs with ⟨M, h1, h2, h3, h4, h5, h6⟩ | ⟨h1, h2, h3, h4⟩
  · exact .inl ⟨M, (hc _).trans h1, (hf _).trans h2, h3, h4.of_block (by rw [e]), fun o b hb => ⟨(h5 o b hb).1, (h5 o b hb).2.1, (h5 o b hb).2.2.of_block (by rw [e])⟩, h6⟩
  · exact .inr ⟨(hc _).trans h1, (hf _).trans h2, h3, h4⟩
theorem Held.drawn {w w' : World} {p : Nat} {A C : List ByteArray} {i : Nat} (h : Held w p A C i) (hd : Drawn w w') : Held w' p A C i := by
  obtain ⟨m, rfl⟩ := hd
  exact h.heap (by simp)

theorem Held.nil {w : World} {p : Nat} {A C : List ByteArray} (h : Held w p A C 0) : w.cell? ⟨p, 0, none⟩ = some (.map none) := by
  obtain ⟨_, _, _, _, h0⟩ := h
  exact h0 rfl
/-- the state behind one pair or more -/
theorem Held.mapped {w : World} {p : Nat} {A C : List ByteArray} {i : Nat} (h : Held w p A C i) (hi : 0 < i) :
    ∃ M β, NamesM w p M (2 * i) β (dcnt A i) (hasP ((A.zip C).take i)) (fun o => cnt A C o i) ∧ (∀ y, (β y).isSome = true ↔ ∃ j, j < i ∧ A[j]?.getD ByteArray.empty = y) ∧ (∀ o, β o = none → ∀ y, hasP ((A.zip C).take i) o y = false) := by
  obtain ⟨β, ⟨hs, hz⟩, hb, hne, _⟩ := h
  rcases hs with ⟨M, hM⟩ | ⟨h1, _⟩
  · exact ⟨M, β, hM, hb, fun o ho => (hz o ho).2⟩
  · exact absurd h1 (hne hi)

/-- one call of ZZAddName, between two rounds -/
theorem zzAddName_held (w : World) (p : Nat) (A C : List ByteArray) (n i : Nat) (hA : A.length = n) (hC : C.length = n) (hi : i < n) (hn : n ≤ 256) (h : Held w p A C i) (ho : (A[i]?.getD ByteArray.empty).size ≤ maxLen) (hx : (C[i]?.getD ByteArray.empty).size ≤ maxLen) :
    Calls Try.prog 50 #[.pointer (some ⟨p, 0, none⟩), .string (A[i]?.getD ByteArray.empty), .string (C[i]?.getD ByteArray.empty)] w fun e w' => (∃ v, e = .returned v) ∧ Held w' p A C (i + 1) ∧ Below p w w' := by
  obtain ⟨β, hN, hb, _⟩ := h
  refine (zzAddName_any p (2 * i) β _ _ _ _ _ w hN ho hx (by omega)).mono ?_
  rintro e w' ⟨hv, hp⟩
  exact ⟨hv, held_step w w' p A C n i hA hC hi β hb hN.2 hp⟩
end Go.Proofs.Qxb6001662a.Wl
