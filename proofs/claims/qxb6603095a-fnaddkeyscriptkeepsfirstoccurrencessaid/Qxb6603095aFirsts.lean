import Derived.Test.Qxb6603095aSortPl
namespace Go.Proofs.Qxb6603095a.Pl
set_option linter.unusedVariables false

/-- the first occurrences, in order -/
def firsts (T : List (List Int)) : List (List Int) := T.foldl (fun acc x => if acc.contains x then acc else acc ++ [x]) []
theorem firsts_nil : firsts [] = [] := rfl
theorem firsts_snoc (T : List (List Int)) (x : List Int) : firsts (T ++ [x]) = if (firsts T).contains x then firsts T else firsts T ++ [x] := by
  unfold firsts
  rw [List.foldl_append]
  rfl
theorem snoc_ind {P : List (List Int) → Prop} (h0 : P []) (hs : ∀ T x, P T → P (T ++ [x])) (T : List (List Int)) : P T := by
  have : ∀ n (T : List (List Int)), T.length = n → P T := by
    intro n
    induction n with
    | zero => intro T h; rw [List.eq_nil_of_length_eq_zero h]; exact h0
    | succ n ih =>
      intro T h
      have hne : T ≠ [] := by intro e; rw [e] at h; simp at h
      rw [← List.dropLast_concat_getLast hne]
      exact hs _ _ (ih _ (by rw [List.length_dropLast]; omega))
  exact this _ T rfl
theorem mem_firsts (T : List (List Int)) : ∀ z, z ∈ firsts T ↔ z ∈ T := by
  induction T using snoc_ind with
  | h0 => intro z; simp [firsts_nil]
  | hs T x ih =>
    intro z
    rw [firsts_snoc, List.mem_append, List.mem_singleton]
    by_cases h : (firsts T).contains x = true
    · rw [if_pos h, ih]
      rw [List.contains_iff_mem, ih] at h
      exact ⟨fun h => .inl h, fun h' => by rcases h' with h' | rfl; exact h'; exact h⟩
    · rw [if_neg h, List.mem_append, List.mem_singleton, ih]
theorem contains_firsts (T : List (List Int)) (z : List Int) : (firsts T).contains z = T.contains z := by
  rw [Bool.eq_iff_iff, List.contains_iff_mem, List.contains_iff_mem]
  exact mem_firsts T z
theorem firsts_snoc' (T : List (List Int)) (x : List Int) : firsts (T ++ [x]) = if T.contains x then firsts T else firsts T ++ [x] := by
  rw [firsts_snoc, contains_firsts]
theorem length_firsts (T : List (List Int)) : (firsts T).length = nDiff T := by
  induction T using snoc_ind with
  | h0 => rfl
  | hs T x ih =>
    rw [firsts_snoc', nDiff_snoc]
    by_cases h : T.contains x = true
    · rw [if_pos h, if_pos h, ih]; rfl
    · rw [if_neg h, if_neg h, List.length_append, ih]; rfl
theorem nDiff_firsts (T : List (List Int)) : nDiff (firsts T) = nDiff T := by
  induction T using snoc_ind with
  | h0 => rfl
  | hs T x ih =>
    rw [firsts_snoc', nDiff_snoc]
    by_cases h : T.contains x = true
    · rw [if_pos h, if_pos h, ih]; rfl
    · rw [if_neg h, if_neg h, nDiff_snoc, contains_firsts, if_neg h, ih]
theorem firstB_take (A : List (List Int)) (k : Nat) (hk : k < A.length) : firstB A k = !((A.take k).contains (A[k]?.getD [])) := by
  rw [Bool.eq_iff_iff, firstB_iff, Bool.not_eq_true', List.contains_eq_mem, decide_eq_false_iff_not]
  constructor
  · intro h hm
    obtain ⟨j, hj, e⟩ := List.getElem_of_mem hm
    rw [List.length_take] at hj
    rw [List.getElem_take] at e
    refine h j (by omega) ?_
    rw [List.getElem?_eq_getElem (by omega), Option.getD_some, e]
  · intro h j hj e
    refine h ?_
    rw [← e, List.getElem?_eq_getElem (by omega), Option.getD_some]
    rw [List.mem_take_iff_getElem]
    exact ⟨j, by omega, rfl⟩
theorem take_snoc (A : List (List Int)) (k : Nat) (hk : k < A.length) : A.take (k + 1) = A.take k ++ [A[k]?.getD []] := by
  rw [List.take_succ_eq_append_getElem hk, List.getElem?_eq_getElem hk, Option.getD_some]
theorem firsts_prefix (A : List (List Int)) (k : Nat) : ∃ R, firsts A = firsts (A.take k) ++ R := by
  have : ∀ m, ∃ R, firsts (A.take (k + m)) = firsts (A.take k) ++ R := by
    intro m
    induction m with
    | zero => exact ⟨[], by simp⟩
    | succ m ih =>
      obtain ⟨R, hR⟩ := ih
      by_cases h : k + m < A.length
      · rw [show k + (m + 1) = (k + m) + 1 by omega, take_snoc A _ h, firsts_snoc']
        by_cases hc : (A.take (k + m)).contains (A[k + m]?.getD []) = true
        · rw [if_pos hc]; exact ⟨R, hR⟩
        · rw [if_neg hc]; exact ⟨R ++ [A[k + m]?.getD []], by rw [hR, List.append_assoc]⟩
      · rw [List.take_of_length_le (by omega)]
        rw [List.take_of_length_le (by omega)] at hR
        exact ⟨R, hR⟩
  obtain ⟨R, hR⟩ := this A.length
  rw [List.take_of_length_le (by omega)] at hR
  exact ⟨R, hR⟩
/-- the place of a flagged element -/
theorem firsts_at (A : List (List Int)) (k : Nat) (hk : k < A.length) (h : firstB A k = true) : nDiff (A.take k) < nDiff A ∧ (firsts A)[nDiff (A.take k)]? = some (A[k]?.getD []) := by
  rw [firstB_take A k hk, Bool.not_eq_true'] at h
  have e : firsts (A.take (k + 1)) = firsts (A.take k) ++ [A[k]?.getD []] := by
    rw [take_snoc A k hk, firsts_snoc', h]; rfl
  obtain ⟨R, hR⟩ := firsts_prefix A (k + 1)
  rw [e] at hR
  have hl := congrArg List.length hR
  simp only [List.length_append, length_firsts, List.length_singleton] at hl
  refine ⟨by omega, ?_⟩
  rw [hR, List.append_assoc, List.getElem?_append_right (by rw [length_firsts]; exact Nat.le_refl _), length_firsts, Nat.sub_self]
  rfl
theorem nDiff_take (A : List (List Int)) (k : Nat) (hk : k < A.length) : nDiff (A.take (k + 1)) = nDiff (A.take k) + (if firstB A k then 1 else 0) := by
  rw [take_snoc A k hk, nDiff_snoc, firstB_take A k hk]
  cases (A.take k).contains (A[k]?.getD []) <;> rfl
end Go.Proofs.Qxb6603095a.Pl
