/- The plain mathematics of the two laws on StringIs: no Go in sight. -/
namespace Go.Proofs.Qxb6603095a.Pl

def hexVal (c : Int) : Int :=
  if 48 ≤ c ∧ c ≤ 57 then c - 48 else if 97 ≤ c ∧ c ≤ 102 then c - 87 else if 65 ≤ c ∧ c ≤ 70 then c - 55 else -1

theorem hexVal_le (c : Int) : hexVal c ≤ 15 ∧ -1 ≤ hexVal c := by
  unfold hexVal; split
  · omega
  · split
    · omega
    · split <;> omega

def isLetterB (c : Int) : Bool := (decide (97 ≤ c) && decide (c ≤ 122)) || (decide (65 ≤ c) && decide (c ≤ 90))

/-- the value of the first k hex digits of X -/
def hexTo (X : List Int) : Nat → Int
  | 0 => 0
  | k + 1 => hexTo X k * 16 + hexVal (X[k]?.getD 0)

def shortOf (y : Int) : Option Int :=
  if y = 34 then some 34 else if y = 92 then some 92 else if y = 47 then some 47 else if y = 98 then some 8 else if y = 102 then some 12
  else if y = 110 then some 10 else if y = 114 then some 13 else if y = 116 then some 9 else none

def stepL (t : List Int) : Option (Int × Nat) :=
  if t.length = 0 then none else
  if t[0]?.getD 0 ≠ 92 then some (t[0]?.getD 0, 1) else
  if t.length < 2 then none else
  if t[1]?.getD 0 = 117 then
    if t.length < 6 then none else
    if hexVal (t[2]?.getD 0) < 0 ∨ hexVal (t[3]?.getD 0) < 0 ∨ hexVal (t[4]?.getD 0) < 0 ∨ hexVal (t[5]?.getD 0) < 0 then none
    else some (hexTo (t.drop 2) 4, 6)
  else (shortOf (t[1]?.getD 0)).map fun u => (u, 2)

def dec : Nat → List Int → Option (List Int)
  | 0, t => if t.length = 0 then some [] else none
  | f + 1, t => if t.length = 0 then some [] else match stepL t with
    | none => none
    | some (u, k) => (dec f (t.drop k)).map (u :: ·)

theorem hexTo_bd (X : List Int) (k : Nat) (h : ∀ j, j < k → 0 ≤ hexVal (X[j]?.getD 0)) : 0 ≤ hexTo X k ∧ hexTo X k < 16 ^ k := by
  induction k with
  | zero => simp [hexTo]
  | succ k ih =>
    have := ih fun j hj => h j (by omega)
    have h1 := h k (by omega)
    have h2 := hexVal_le (X[k]?.getD 0)
    simp only [hexTo, Int.pow_succ]
    omega

theorem shortOf_not (y u : Int) (h : shortOf y = some u) : isLetterB u = false := by
  unfold shortOf at h
  repeat' split at h
  all_goals first | (simp at h; done) | (simp at h; subst h; rfl)

theorem dec_nil (f : Nat) (t : List Int) (h : t.length = 0) : dec f t = some [] := by
  cases f <;> simp [dec, h]

/-- one step of the decoder, taken off the front -/
theorem dec_step (f : Nat) (t : List Int) (us : List Int) (h : dec f t = some us) (ht : 0 < t.length) :
    ∃ u k f' us', stepL t = some (u, k) ∧ us = u :: us' ∧ dec f' (t.drop k) = some us' := by
  cases f with
  | zero => simp [dec] at h; simp [h.1] at ht
  | succ f =>
    have h0 : ¬ t.length = 0 := by omega
    unfold dec at h
    rw [if_neg h0] at h
    cases hs : stepL t with
    | none => rw [hs] at h; simp at h
    | some p =>
      obtain ⟨u, k⟩ := p
      rw [hs] at h
      simp only [Option.map_eq_some_iff] at h
      obtain ⟨us', h1, h2⟩ := h
      exact ⟨u, k, f, us', rfl, h2.symm, h1⟩

theorem stepL_cases (t : List Int) (u : Int) (kk : Nat) (h : stepL t = some (u, kk)) :
    (t[0]?.getD 0 ≠ 92 ∧ u = t[0]?.getD 0 ∧ kk = 1) ∨
    (t[0]?.getD 0 = 92 ∧ 6 ≤ t.length ∧ t[1]?.getD 0 = 117 ∧ (∀ j, j < 4 → 0 ≤ hexVal ((t.drop 2)[j]?.getD 0)) ∧ u = hexTo (t.drop 2) 4 ∧ kk = 6) ∨
    (t[0]?.getD 0 = 92 ∧ 2 ≤ t.length ∧ t[1]?.getD 0 ≠ 117 ∧ shortOf (t[1]?.getD 0) = some u ∧ kk = 2) := by
  unfold stepL at h
  by_cases h0 : t.length = 0
  · rw [if_pos h0] at h; simp at h
  rw [if_neg h0] at h
  by_cases h1 : t[0]?.getD 0 ≠ 92
  · rw [if_pos h1] at h; simp only [Option.some.injEq, Prod.mk.injEq] at h
    exact .inl ⟨h1, h.1.symm, h.2.symm⟩
  rw [if_neg h1] at h
  have h1' : t[0]?.getD 0 = 92 := by simpa using h1
  by_cases h2 : t.length < 2
  · rw [if_pos h2] at h; simp at h
  rw [if_neg h2] at h
  by_cases h3 : t[1]?.getD 0 = 117
  · rw [if_pos h3] at h
    by_cases h4 : t.length < 6
    · rw [if_pos h4] at h; simp at h
    rw [if_neg h4] at h
    by_cases h5 : hexVal (t[2]?.getD 0) < 0 ∨ hexVal (t[3]?.getD 0) < 0 ∨ hexVal (t[4]?.getD 0) < 0 ∨ hexVal (t[5]?.getD 0) < 0
    · rw [if_pos h5] at h; simp at h
    rw [if_neg h5] at h
    simp only [Option.some.injEq, Prod.mk.injEq] at h
    refine .inr (.inl ⟨h1', by omega, h3, ?_, h.1.symm, h.2.symm⟩)
    intro j hj
    rw [List.getElem?_drop]
    match j, hj with
    | 0, _ => show 0 ≤ hexVal (t[2]?.getD 0); omega
    | 1, _ => show 0 ≤ hexVal (t[3]?.getD 0); omega
    | 2, _ => show 0 ≤ hexVal (t[4]?.getD 0); omega
    | 3, _ => show 0 ≤ hexVal (t[5]?.getD 0); omega
  · rw [if_neg h3] at h
    simp only [Option.map_eq_some_iff, Prod.mk.injEq] at h
    obtain ⟨a, ha, rfl, rfl⟩ := h
    exact .inr (.inr ⟨h1', by omega, h3, ha, rfl⟩)

/-- what one round of StringIs meets, at place p of the text Z -/
theorem meet (f : Nat) (Z : List Int) (p : Nat) (us : List Int) (h : dec f (Z.drop p) = some us) (hp : p < Z.length) :
    ∃ u us', us = u :: us' ∧
    ((Z[p]?.getD 0 ≠ 92 ∧ u = Z[p]?.getD 0 ∧ ∃ f', dec f' (Z.drop (p + 1)) = some us') ∨
    (Z[p]?.getD 0 = 92 ∧ p + 6 ≤ Z.length ∧ Z[p + 1]?.getD 0 = 117 ∧ (∀ j, j < 4 → 0 ≤ hexVal ((Z.drop (p + 2))[j]?.getD 0)) ∧ u = hexTo (Z.drop (p + 2)) 4 ∧ ∃ f', dec f' (Z.drop (p + 6)) = some us') ∨
    (Z[p]?.getD 0 = 92 ∧ p + 2 ≤ Z.length ∧ Z[p + 1]?.getD 0 ≠ 117 ∧ isLetterB u = false)) := by
  obtain ⟨u, k, f', us', h1, h2, h3⟩ := dec_step f _ us h (by simp; omega)
  refine ⟨u, us', h2, ?_⟩
  have hc := stepL_cases _ _ _ h1
  simp only [List.getElem?_drop, List.drop_drop, List.length_drop, Nat.add_zero] at hc h3
  rcases hc with ⟨a, b, rfl⟩ | ⟨a, b, c, d, e, rfl⟩ | ⟨a, b, c, d, rfl⟩
  · exact .inl ⟨a, b, f', h3⟩
  · exact .inr (.inl ⟨a, by omega, c, fun j hj => by have := d j hj; rwa [List.getElem?_drop], e, f', h3⟩)
  · exact .inr (.inr ⟨a, by omega, c, shortOf_not _ _ d⟩)

theorem drop_cons_getD (L : List Int) (k : Nat) (hk : k < L.length) : L.drop k = L[k]?.getD 0 :: L.drop (k + 1) := by
  rw [List.drop_eq_getElem_cons hk, List.getElem?_eq_getElem hk]; rfl

/-! ### the decoder's loop -/
theorem dec_on (F : Nat) (Z : List Int) (p f : Nat) (us : List Int) (u : Int) (k : Nat) (h : dec F Z = (dec f (Z.drop p)).map (us ++ ·)) (hp : p < Z.length) (hf : Z.length ≤ p + f)
    (hs : stepL (Z.drop p) = some (u, k)) (hk : 1 ≤ k) : ∃ f', dec F Z = (dec f' (Z.drop (p + k))).map ((us ++ [u]) ++ ·) ∧ Z.length ≤ p + k + f' := by
  cases f with
  | zero => omega
  | succ f =>
    refine ⟨f, ?_, by omega⟩
    rw [h]
    have h0 : ¬ (Z.drop p).length = 0 := by simp; omega
    conv => lhs; unfold dec
    rw [if_neg h0, hs]
    simp only [List.drop_drop]
    cases dec f (Z.drop (p + k)) <;> simp
theorem dec_done (F : Nat) (Z : List Int) (p f : Nat) (us : List Int) (h : dec F Z = (dec f (Z.drop p)).map (us ++ ·)) (hp : Z.length ≤ p) : dec F Z = some us := by
  rw [h, dec_nil _ _ (by simp; omega)]; simp
theorem step_self (Z : List Int) (p : Nat) (hp : p < Z.length) (hx : Z[p]?.getD 0 ≠ 92) : stepL (Z.drop p) = some (Z[p]?.getD 0, 1) := by
  unfold stepL
  rw [if_neg (by simp; omega), if_pos (by rwa [List.getElem?_drop])]
  simp [List.getElem?_drop]
theorem step_short (Z : List Int) (p : Nat) (u : Int) (hp : p + 1 < Z.length) (hx : Z[p]?.getD 0 = 92) (hy : Z[p + 1]?.getD 0 ≠ 117) (hu : shortOf (Z[p + 1]?.getD 0) = some u) : stepL (Z.drop p) = some (u, 2) := by
  unfold stepL
  simp only [List.getElem?_drop, Nat.add_zero, hx]
  rw [if_neg (by simp; omega), if_neg (by simp), if_neg (by simp; omega), if_neg hy, hu]
  rfl
theorem step_hex (Z : List Int) (p : Nat) (hp : p + 6 ≤ Z.length) (hx : Z[p]?.getD 0 = 92) (hy : Z[p + 1]?.getD 0 = 117) (hv : ∀ j, j < 4 → 0 ≤ hexVal ((Z.drop (p + 2))[j]?.getD 0)) :
    stepL (Z.drop p) = some (hexTo (Z.drop (p + 2)) 4, 6) := by
  unfold stepL
  have v0 := hv 0 (by omega)
  have v1 := hv 1 (by omega)
  have v2 := hv 2 (by omega)
  have v3 := hv 3 (by omega)
  simp only [List.getElem?_drop, Nat.add_assoc, Nat.reduceAdd] at v0 v1 v2 v3
  simp only [List.getElem?_drop, Nat.add_zero, hx, hy, List.drop_drop]
  rw [if_neg (by simp; omega), if_neg (by simp), if_neg (by simp; omega), if_pos trivial, if_neg (by simp; omega), if_neg (by omega)]
end Go.Proofs.Qxb6603095a.Pl
