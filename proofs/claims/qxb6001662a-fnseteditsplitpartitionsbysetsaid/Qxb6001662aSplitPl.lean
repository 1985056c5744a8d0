import Derived.Test.Qxb6001662aMat
namespace Go.Proofs.Qxb6001662a.Wl
open Go.RowKit
open Go.Proofs.Qxb6001662a.Bs
set_option linter.unusedVariables false

/-! ### sums -/
def sumN (f : Nat → Nat) : Nat → Nat
  | 0 => 0
  | n + 1 => sumN f n + f n
theorem sumN_congr {f g : Nat → Nat} {n : Nat} (h : ∀ i, i < n → f i = g i) : sumN f n = sumN g n := by
  induction n with
  | zero => rfl
  | succ n ih => unfold sumN; rw [ih (fun i hi => h i (by omega)), h n (by omega)]
theorem sumN_add_at {f g : Nat → Nat} {n m d : Nat} (hm : m < n) (h : ∀ i, i < n → i ≠ m → g i = f i) (hd : g m = f m + d) : sumN g n = sumN f n + d := by
  induction n with
  | zero => omega
  | succ n ih =>
    unfold sumN
    by_cases e : m = n
    · subst e
      rw [sumN_congr (g := f) (fun i hi => h i (by omega) (by omega)), hd]
      omega
    · rw [ih (by omega) (fun i hi hne => h i (by omega) hne), h n (by omega) (fun e' => e e'.symm)]
      omega
theorem sumN_le_at {f : Nat → Nat} {n m : Nat} (hm : m < n) : f m ≤ sumN f n := by
  induction n with
  | zero => omega
  | succ n ih =>
    unfold sumN
    by_cases e : m = n
    · subst e; omega
    · have := ih (by omega); omega
theorem sumN_mono {f : Nat → Nat} {n m : Nat} (h : n ≤ m) : sumN f n ≤ sumN f m := by
  induction m with
  | zero => rw [show n = 0 by omega]; exact Nat.le_refl _
  | succ m ih =>
    by_cases e : n = m + 1
    · subst e; exact Nat.le_refl _
    · have := ih (by omega)
      exact Nat.le_trans this (Nat.le_add_right _ _)

/-! ### the names, in the order of their first commands -/
def kc (R : List (List ByteArray)) : Nat → Nat
  | 0 => 0
  | i + 1 => kc R i + (if firstW (R.map nm) i then 1 else 0)
theorem kc_le (R : List (List ByteArray)) (i : Nat) : kc R i ≤ i := by
  induction i with
  | zero => exact Nat.le_refl _
  | succ i ih => unfold kc; split <;> omega
theorem first_iff (R : List (List ByteArray)) (i : Nat) : firstW (R.map nm) i = true ↔ ∀ j, j < i → nm (R[j]?.getD []) ≠ nm (R[i]?.getD []) := by
  rw [firstW_iff]
  simp only [nm_get]

structure Ks (R : List (List ByteArray)) (i kn : Nat) (kf : Nat → ByteArray) : Prop where
  cnt : kn = kc R i
  inj : ∀ a b, a < kn → b < kn → kf a = kf b → a = b
  hit : ∀ j, j < i → ∃ a, a < kn ∧ kf a = nm (R[j]?.getD [])
  src : ∀ a, a < kn → ∃ j, j < i ∧ nm (R[j]?.getD []) = kf a
  sum : sumN (fun a => (ofSet (R.take i) (kf a)).length) kn = i

theorem Ks.zero (R : List (List ByteArray)) (kf : Nat → ByteArray) : Ks R 0 0 kf :=
  ⟨rfl, fun a b h => absurd h (by omega), fun j h => absurd h (by omega), fun a h => absurd h (by omega), rfl⟩

/-- the command's set has come before -/
theorem Ks.old {R : List (List ByteArray)} {i kn : Nat} {kf : Nat → ByteArray} (h : Ks R i kn kf) (hi : i < R.length) {a : Nat} (ha : a < kn) (e : kf a = nm (R[i]?.getD [])) :
    Ks R (i + 1) kn kf ∧ firstW (R.map nm) i = false := by
  have hf : firstW (R.map nm) i = false := by
    cases hh : firstW (R.map nm) i with
    | false => rfl
    | true =>
      obtain ⟨j, hj, ej⟩ := h.src a ha
      exact absurd (ej.trans e) ((first_iff R i).1 hh j hj)
  refine ⟨⟨?_, h.inj, ?_, ?_, ?_⟩, hf⟩
  · show kn = kc R i + _
    rw [hf, h.cnt]; rfl
  · intro j hj
    by_cases ej : j = i
    · subst ej; exact ⟨a, ha, e⟩
    · exact h.hit j (by omega)
  · intro b hb
    obtain ⟨j, hj, ej⟩ := h.src b hb
    exact ⟨j, by omega, ej⟩
  · rw [sumN_add_at (f := fun a => (ofSet (R.take i) (kf a)).length) (d := 1) ha, h.sum]
    · intro b hb hne
      show (ofSet (R.take (i + 1)) (kf b)).length = (ofSet (R.take i) (kf b)).length
      rw [ofSet_take R i hi, if_neg (fun e' => hne (h.inj b a hb ha (e'.symm.trans e.symm))), List.append_nil]
    · show (ofSet (R.take (i + 1)) (kf a)).length = (ofSet (R.take i) (kf a)).length + 1
      rw [ofSet_take R i hi, if_pos e.symm, List.length_append]; rfl

/-- the command opens a new set -/
theorem Ks.fresh {R : List (List ByteArray)} {i kn : Nat} {kf : Nat → ByteArray} (h : Ks R i kn kf) (hn : ∀ a, a < kn → kf a ≠ nm (R[i]?.getD [])) : ofSet (R.take i) (nm (R[i]?.getD [])) = [] := by
  unfold ofSet
  rw [List.filter_eq_nil_iff]
  intro r hr hc
  rw [decide_eq_true_eq] at hc
  obtain ⟨j, hj, rfl⟩ := List.getElem_of_mem hr
  rw [List.length_take] at hj
  obtain ⟨a, ha, ea⟩ := h.hit j (by omega)
  apply hn a ha
  rw [ea, ← hc, List.getElem_take, List.getElem?_eq_getElem (by omega)]
  rfl
theorem Ks.new {R : List (List ByteArray)} {i kn : Nat} {kf : Nat → ByteArray} (h : Ks R i kn kf) (hi : i < R.length) (hn : ∀ a, a < kn → kf a ≠ nm (R[i]?.getD [])) :
    Ks R (i + 1) (kn + 1) (fun j => if j = kn then nm (R[i]?.getD []) else kf j) ∧ firstW (R.map nm) i = true := by
  have hf : firstW (R.map nm) i = true := by
    rw [first_iff]
    intro j hj e
    obtain ⟨a, ha, ea⟩ := h.hit j hj
    exact hn a ha (ea.trans e)
  have hfr := h.fresh hn
  refine ⟨⟨?_, ?_, ?_, ?_, ?_⟩, hf⟩
  · show kn + 1 = kc R i + _
    rw [hf, h.cnt]; rfl
  · intro a b ha hb e
    by_cases e1 : a = kn
    · by_cases e2 : b = kn
      · omega
      · rw [if_pos e1, if_neg e2] at e
        exact absurd e.symm (hn b (by omega))
    · by_cases e2 : b = kn
      · rw [if_neg e1, if_pos e2] at e
        exact absurd e (hn a (by omega))
      · rw [if_neg e1, if_neg e2] at e
        exact h.inj a b (by omega) (by omega) e
  · intro j hj
    by_cases ej : j = i
    · subst ej; exact ⟨kn, by omega, by simp⟩
    · obtain ⟨a, ha, ea⟩ := h.hit j (by omega)
      exact ⟨a, by omega, by simp only [if_neg (show a ≠ kn by omega)]; exact ea⟩
  · intro a ha
    by_cases e : a = kn
    · exact ⟨i, by omega, by simp only [if_pos e]⟩
    · obtain ⟨j, hj, ej⟩ := h.src a (by omega)
      exact ⟨j, by omega, by simp only [if_neg e]; exact ej⟩
  · unfold sumN
    rw [sumN_congr (g := fun a => (ofSet (R.take i) (kf a)).length), h.sum]
    · show i + (ofSet (R.take (i + 1)) (if kn = kn then nm (R[i]?.getD []) else kf kn)).length = i + 1
      rw [if_pos rfl, ofSet_take R i hi, if_pos rfl, hfr]; rfl
    · intro a ha
      show (ofSet (R.take (i + 1)) (if a = kn then nm (R[i]?.getD []) else kf a)).length = _
      rw [if_neg (show a ≠ kn by omega), ofSet_take R i hi, if_neg (fun e => hn a ha e.symm), List.append_nil]
/-- how the set of a name grows by one command -/
theorem ofSet_other {R : List (List ByteArray)} {i : Nat} (hi : i < R.length) {x : ByteArray} (h : x ≠ nm (R[i]?.getD [])) : ofSet (R.take (i + 1)) x = ofSet (R.take i) x := by
  rw [ofSet_take R i hi, if_neg (fun e => h e.symm), List.append_nil]
theorem ofSet_own {R : List (List ByteArray)} {i : Nat} (hi : i < R.length) {x : ByteArray} (h : x = nm (R[i]?.getD [])) : ofSet (R.take (i + 1)) x = ofSet (R.take i) x ++ [R[i]?.getD []] := by
  rw [ofSet_take R i hi, if_pos h.symm]

/-! ### the parts -/
theorem ofSet_self (R : List (List ByteArray)) (x : ByteArray) : ofSet (ofSet R x) x = ofSet R x := by
  unfold ofSet; rw [List.filter_filter]; simp
theorem ofSet_cross (R : List (List ByteArray)) {x y : ByteArray} (h : x ≠ y) : ofSet (ofSet R x) y = [] := by
  unfold ofSet
  rw [List.filter_filter, List.filter_eq_nil_iff]
  intro r _ hc
  rw [Bool.and_eq_true, decide_eq_true_eq, decide_eq_true_eq] at hc
  exact h (hc.2.symm.trans hc.1)

structure Pd (R : List (List ByteArray)) (q g kn : Nat) (kf : Nat → ByteArray) (P : Nat → List (List ByteArray)) : Prop where
  fill : ∀ p, p < q → (P p ≠ [] ↔ p < g)
  sum : sumN (fun p => (P p).length) q = sumN (fun j => (ofSet R (kf j)).length) g
  gap : ∀ big, (∀ j, j < g → (ofSet R (kf j)).length ≤ big) → ∀ p p', p < q → p' < q → (P p).length ≤ (P p').length + big
  own : ∀ j, j < g → ∃ p, p < q ∧ ofSet (P p) (kf j) = ofSet R (kf j) ∧ ∀ p', p' < q → p' ≠ p → ofSet (P p') (kf j) = []
  free : ∀ j, g ≤ j → j < kn → ∀ p, p < q → ofSet (P p) (kf j) = []
  rows : ∀ p, p < q → ∀ r, r ∈ P p → r ∈ R
theorem Pd.zero (R : List (List ByteArray)) (q kn : Nat) (kf : Nat → ByteArray) : Pd R q 0 kn kf (fun _ => []) := by
  refine ⟨fun p _ => by simp, ?_, fun big _ p p' _ _ => by simp, fun j h => absurd h (by omega), fun j _ _ p _ => rfl, fun p _ r h => by cases h⟩
  have : ∀ q, sumN (fun _ => 0) q = 0 := by
    intro q
    induction q with
    | zero => rfl
    | succ q ih => unfold sumN; rw [ih]
  exact this q

/-- where the next set goes -/
def Least (P : Nat → List (List ByteArray)) (q m : Nat) : Prop := m < q ∧ (∀ p, p < q → (P m).length ≤ (P p).length) ∧ (∀ p, p < m → (P m).length < (P p).length)

theorem Pd.step {R : List (List ByteArray)} {q g kn i : Nat} {kf : Nat → ByteArray} {P : Nat → List (List ByteArray)} {m : Nat} (h : Pd R q g kn kf P) (hk : Ks R i kn kf) (hg : g < kn) (hm : Least P q m) (hne : ofSet R (kf g) ≠ []) :
    Pd R q (g + 1) kn kf (fun p => if p = m then P m ++ ofSet R (kf g) else P p) := by
  obtain ⟨m1, m2, m3⟩ := hm
  have hpos : 0 < (ofSet R (kf g)).length := List.length_pos_iff.2 hne
  have hPm : (fun p => if p = m then P m ++ ofSet R (kf g) else P p) m = P m ++ ofSet R (kf g) := by simp
  have hPo : ∀ p, p ≠ m → (fun p => if p = m then P m ++ ofSet R (kf g) else P p) p = P p := fun p hp => by simp [hp]
  generalize (fun p => if p = m then P m ++ ofSet R (kf g) else P p) = P' at *
  refine ⟨?_, ?_, ?_, ?_, ?_, ?_⟩
  · intro p hp
    by_cases e : p = m
    · subst e
      rw [hPm]
      have h1 := h.fill p hp
      constructor
      · intro _
        by_cases hgq : g < q
        · have hz : P g = [] := by
            apply Classical.byContradiction
            intro hc
            exact absurd ((h.fill g hgq).1 hc) (by omega)
          have h2 := m2 g hgq
          rw [hz, List.length_nil] at h2
          by_cases hpg : p ≤ g
          · omega
          · have h3 := m3 g (by omega)
            rw [hz, List.length_nil] at h3
            omega
        · omega
      · intro _ hc
        rw [List.append_eq_nil_iff] at hc
        exact hne hc.2
    · rw [hPo p e, h.fill p hp]
      constructor
      · intro hh; omega
      · intro hh
        by_cases e2 : p = g
        · exfalso
          subst e2
          have hz : P p = [] := by
            apply Classical.byContradiction
            intro hc
            exact absurd ((h.fill p hp).1 hc) (by omega)
          have h2 := m2 p hp
          rw [hz, List.length_nil] at h2
          have h4 : P m = [] := List.eq_nil_of_length_eq_zero (by omega)
          have h5 : ¬ m < p := fun hc => ((h.fill m m1).2 hc) h4
          have h3 := m3 p (by omega)
          rw [hz, List.length_nil] at h3
          omega
        · omega
  · show _ = sumN _ g + _
    rw [← h.sum]
    refine sumN_add_at (f := fun p => (P p).length) m1 (fun p _ hne' => ?_) ?_
    · show (P' p).length = (P p).length
      rw [hPo p hne']
    · show (P' m).length = (P m).length + _
      rw [hPm, List.length_append]
  · intro big hb p p' hp hp'
    have h1 := h.gap big (fun j hj => hb j (by omega))
    have h2 := hb g (by omega)
    have l1 := h1 p p' hp hp'
    have l2 := h1 p m hp m1
    have l3 := m2 p' hp'
    by_cases e : p = m
    · by_cases e' : p' = m
      · rw [e, e']; omega
      · rw [e, hPm, hPo p' e', List.length_append]; omega
    · by_cases e' : p' = m
      · rw [e', hPm, hPo p e, List.length_append]; omega
      · rw [hPo p e, hPo p' e']; omega
  · intro j hj
    by_cases e : j = g
    · subst e
      refine ⟨m, m1, ?_, ?_⟩
      · rw [hPm, ofSet_append, h.free j (Nat.le_refl _) hg m m1, ofSet_self]; rfl
      · intro p' hp' hne'
        rw [hPo p' hne']
        exact h.free j (Nat.le_refl _) hg p' hp'
    · have hjg : j < g := by omega
      have hkne : kf g ≠ kf j := fun e' => e (hk.inj g j hg (by omega) e').symm
      obtain ⟨p, hp, e1, e2⟩ := h.own j hjg
      have hz : ofSet (ofSet R (kf g)) (kf j) = [] := ofSet_cross R hkne
      have step : ∀ p0, ofSet (P' p0) (kf j) = ofSet (P p0) (kf j) := by
        intro p0
        by_cases e0 : p0 = m
        · rw [e0, hPm, ofSet_append, hz, List.append_nil]
        · rw [hPo p0 e0]
      exact ⟨p, hp, by rw [step, e1], fun p' hp' hne' => by rw [step]; exact e2 p' hp' hne'⟩
  · intro j hj hjk p hp
    have hkne : kf g ≠ kf j := fun e' => by have := hk.inj g j hg hjk e'; omega
    by_cases e : p = m
    · subst e
      rw [hPm, ofSet_append, h.free j (by omega) hjk p hp, ofSet_cross R hkne]; rfl
    · rw [hPo p e]
      exact h.free j (by omega) hjk p hp
  · intro p hp r hr
    by_cases e : p = m
    · subst e
      rw [hPm, List.mem_append] at hr
      rcases hr with hr | hr
      · exact h.rows p hp r hr
      · exact (List.mem_filter.1 hr).1
    · rw [hPo p e] at hr
      exact h.rows p hp r hr

theorem Ks.total {R : List (List ByteArray)} {kn : Nat} {kf : Nat → ByteArray} (h : Ks R R.length kn kf) : sumN (fun a => (ofSet R (kf a)).length) kn = R.length := by
  have := h.sum
  rwa [List.take_of_length_le (Nat.le_refl _)] at this
theorem Pd.le {R : List (List ByteArray)} {q g kn : Nat} {kf : Nat → ByteArray} {P : Nat → List (List ByteArray)} (h : Pd R q g kn kf P) (hk : Ks R R.length kn kf) (hg : g ≤ kn) (p : Nat) (hp : p < q) : (P p).length ≤ R.length := by
  have h1 := sumN_le_at (f := fun p => (P p).length) hp
  rw [h.sum] at h1
  have h2 := sumN_mono (f := fun j => (ofSet R (kf j)).length) hg
  rw [hk.total] at h2
  omega
theorem Ks.nonempty {R : List (List ByteArray)} {kn : Nat} {kf : Nat → ByteArray} (h : Ks R R.length kn kf) {a : Nat} (ha : a < kn) : ofSet R (kf a) ≠ [] := by
  obtain ⟨j, hj, e⟩ := h.src a ha
  intro hc
  unfold ofSet at hc
  rw [List.filter_eq_nil_iff] at hc
  have hmem : R[j]?.getD [] ∈ R := by rw [List.getElem?_eq_getElem hj]; exact List.getElem_mem _
  exact hc _ hmem (by rw [decide_eq_true_eq]; exact e)
end Go.Proofs.Qxb6001662a.Wl
