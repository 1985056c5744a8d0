/- The plain mathematics of zzSortIdx and zzFirstFlags: a merge sort of indices, and which elements come first. No Go in sight. -/
namespace Go.Proofs.Qxb6603095a.Pl

/-! ### the order of byte strings -/
def cmpL : List Int → List Int → Int
  | [], [] => 0
  | [], _ :: _ => -1
  | _ :: _, [] => 1
  | x :: s, y :: t => if x < y then -1 else if y < x then 1 else cmpL s t

theorem cmp_bd (s t : List Int) : -1 ≤ cmpL s t ∧ cmpL s t ≤ 1 := by
  induction s generalizing t with
  | nil => cases t <;> simp [cmpL]
  | cons x s ih =>
    cases t with
    | nil => simp [cmpL]
    | cons y t =>
      simp only [cmpL]
      split
      · omega
      · split
        · omega
        · exact ih t
theorem cmp_refl (s : List Int) : cmpL s s = 0 := by
  induction s with
  | nil => rfl
  | cons x s ih => simp [cmpL, ih]
theorem cmp_eq (s t : List Int) (h : cmpL s t = 0) : s = t := by
  induction s generalizing t with
  | nil => cases t with
    | nil => rfl
    | cons _ _ => simp [cmpL] at h
  | cons x s ih => cases t with
    | nil => simp [cmpL] at h
    | cons y t =>
      simp only [cmpL] at h
      split at h
      · omega
      · split at h
        · omega
        · rw [ih t h, show x = y by omega]
theorem cmp_swap (s t : List Int) : cmpL t s = - cmpL s t := by
  induction s generalizing t with
  | nil => cases t <;> simp [cmpL]
  | cons x s ih => cases t with
    | nil => simp [cmpL]
    | cons y t =>
      simp only [cmpL]
      by_cases h1 : x < y
      · rw [if_neg (by omega), if_pos h1, if_pos h1]; omega
      · by_cases h2 : y < x
        · rw [if_pos h2, if_neg h1, if_pos h2]
        · rw [if_neg h2, if_neg h1, if_neg h1, if_neg h2]; exact ih t
theorem cmp_trans (s t u : List Int) (h1 : cmpL s t ≤ 0) (h2 : cmpL t u ≤ 0) : cmpL s u ≤ 0 ∧ (cmpL s u = 0 → cmpL s t = 0 ∧ cmpL t u = 0) := by
  induction s generalizing t u with
  | nil => cases t with
    | nil => cases u with
      | nil => simp [cmpL]
      | cons _ _ => simp [cmpL]
    | cons _ _ => cases u with
      | nil => simp [cmpL] at h2
      | cons _ _ => simp [cmpL]
  | cons x s ih => cases t with
    | nil => simp [cmpL] at h1
    | cons y t => cases u with
      | nil => simp [cmpL] at h2
      | cons z u =>
        simp only [cmpL] at h1 h2 ⊢
        by_cases a1 : x < y
        · by_cases a2 : y < z
          · rw [if_pos (show x < z by omega)]; omega
          · rw [if_neg a2] at h2
            by_cases a3 : z < y
            · rw [if_pos a3] at h2; omega
            · rw [if_pos (show x < z by omega)]; omega
        · rw [if_neg a1] at h1 ⊢
          by_cases a4 : y < x
          · rw [if_pos a4] at h1; omega
          · rw [if_neg a4] at h1 ⊢
            have e : x = y := by omega
            subst e
            by_cases a2 : x < z
            · rw [if_pos a2]; omega
            · by_cases a3 : z < x
              · rw [if_neg a2, if_pos a3] at h2; omega
              · simp only [if_neg a2, if_neg a3] at h2 ⊢
                exact ih t u h1 h2

/-! ### the order of indices -/
def leB (A : List (List Int)) (i j : Nat) : Bool := decide (cmpL (A[i]?.getD []) (A[j]?.getD []) < 0) || (decide (cmpL (A[i]?.getD []) (A[j]?.getD []) = 0) && decide (i ≤ j))
theorem leB_iff (A : List (List Int)) (i j : Nat) : leB A i j = true ↔ (cmpL (A[i]?.getD []) (A[j]?.getD []) < 0 ∨ (cmpL (A[i]?.getD []) (A[j]?.getD []) = 0 ∧ i ≤ j)) := by
  simp [leB]
theorem leB_total (A : List (List Int)) (i j : Nat) : (leB A i j || leB A j i) = true := by
  rw [Bool.or_eq_true, leB_iff, leB_iff, cmp_swap (A[i]?.getD []) (A[j]?.getD [])]
  omega
theorem leB_trans (A : List (List Int)) (i j k : Nat) (h1 : leB A i j = true) (h2 : leB A j k = true) : leB A i k = true := by
  rw [leB_iff] at *
  have := cmp_trans (A[i]?.getD []) (A[j]?.getD []) (A[k]?.getD []) (by omega) (by omega)
  omega

/-! ### the runs -/
def Runs (A : List (List Int)) (W : Nat) (I : List Nat) : Prop := ∀ m, ((I.drop (m * W)).take W).Pairwise (fun a b => leB A a b = true)

theorem runs_one (A : List (List Int)) (I : List Nat) : Runs A 1 I := by
  intro m
  match h : I.drop (m * 1) with
  | [] => simp
  | x :: r => simp
theorem runs_snoc (A : List (List Int)) (V m : Nat) (L M : List Nat) (hV : 0 < V) (hL : L.length = m * V) (hM : M.length ≤ V) (h1 : Runs A V L) (h2 : M.Pairwise (fun a b => leB A a b = true)) : Runs A V (L ++ M) := by
  intro k
  by_cases hk : k < m
  · have hle : k * V + V ≤ m * V := by
      have : (k + 1) * V ≤ m * V := Nat.mul_le_mul_right _ hk
      rw [Nat.add_mul] at this; omega
    have := h1 k
    rw [List.drop_append_of_le_length (by omega), List.take_append_of_le_length (by rw [List.length_drop]; omega)]
    exact this
  · by_cases hk2 : k = m
    · subst hk2
      rw [List.drop_append, hL, Nat.sub_self, List.drop_zero, List.drop_of_length_le (by omega), List.nil_append, List.take_of_length_le hM]
      exact h2
    · have hle : m * V + V ≤ k * V := by
        have : (m + 1) * V ≤ k * V := Nat.mul_le_mul_right _ (by omega)
        rw [Nat.add_mul] at this; omega
      rw [List.drop_of_length_le (by rw [List.length_append]; omega)]
      simp

/-- what one merge step makes of the row that is being filled -/
theorem pass_step (A : List (List Int)) (W m n : Nat) (I T : List Nat) (hW : 0 < W) (hI : I.length = n) (hT : T.length = n) (hlo : m * (2 * W) < n) (hr : Runs A W I) (hp : (T.take (m * (2 * W))).Perm (I.take (m * (2 * W)))) (hrt : Runs A (2 * W) (T.take (m * (2 * W)))) :
    let lo := m * (2 * W)
    let M := ((I.drop lo).take W).merge ((I.drop (lo + W)).take W) (leB A)
    let T' := T.take lo ++ M ++ T.drop (lo + 2 * W)
    T'.length = n ∧ (T'.take ((m + 1) * (2 * W))).Perm (I.take ((m + 1) * (2 * W))) ∧ Runs A (2 * W) (T'.take ((m + 1) * (2 * W))) := by
  intro lo M T'
  have hMl : M.length = ((I.drop lo).take W).length + ((I.drop (lo + W)).take W).length := by
    show (List.merge _ _ _).length = _
    rw [List.length_merge]
  simp only [List.length_take, List.length_drop, hI] at hMl
  have hlo' : lo < n := hlo
  have e1 : (m + 1) * (2 * W) = lo + 2 * W := by show _ = m * (2 * W) + 2 * W; rw [Nat.add_mul]; omega
  have hTl : (T.take lo).length = lo := by rw [List.length_take]; omega
  have hT'l : T'.length = n := by
    show (T.take lo ++ M ++ T.drop (lo + 2 * W)).length = n
    simp only [List.length_append, hTl, hMl, List.length_drop, hT]; omega
  have e2 : T'.take (lo + 2 * W) = T.take lo ++ M := by
    show (T.take lo ++ M ++ T.drop (lo + 2 * W)).take (lo + 2 * W) = _
    by_cases h : lo + 2 * W ≤ n
    · rw [List.take_append_of_le_length (by rw [List.length_append, hTl, hMl]; omega), List.take_of_length_le (by rw [List.length_append, hTl, hMl]; omega)]
    · rw [List.drop_of_length_le (show T.length ≤ lo + 2 * W by omega), List.append_nil, List.take_of_length_le (by rw [List.length_append, hTl, hMl]; omega)]
  have e3 : I.take (lo + 2 * W) = I.take lo ++ ((I.drop lo).take W ++ (I.drop (lo + W)).take W) := by
    rw [List.take_add, show 2 * W = W + W by omega, List.take_add, List.drop_drop]
  rw [e1, e2, e3]
  refine ⟨hT'l, ?_, ?_⟩
  · exact List.Perm.append hp (List.merge_perm_append _)
  · refine runs_snoc A (2 * W) m _ M (by omega) (by rw [hTl]) (by rw [hMl]; omega) hrt ?_
    refine List.pairwise_merge (leB_trans A) (leB_total A) _ _ ?_ ?_
    · have := hr (2 * m)
      rwa [show 2 * m * W = lo from by show _ = m * (2 * W); rw [Nat.mul_comm 2 m, Nat.mul_assoc]] at this
    · have := hr (2 * m + 1)
      rwa [show (2 * m + 1) * W = lo + W from by show _ = m * (2 * W) + W; rw [Nat.add_mul, Nat.mul_comm 2 m, Nat.mul_assoc]; omega] at this

/-! ### which elements come first -/
def firstB (A : List (List Int)) (i : Nat) : Bool := (List.range i).all fun j => !((A[j]?.getD []) == (A[i]?.getD []))
theorem firstB_iff (A : List (List Int)) (i : Nat) : firstB A i = true ↔ ∀ j, j < i → A[j]?.getD [] ≠ A[i]?.getD [] := by
  simp [firstB, List.all_eq_true]
def atB (A : List (List Int)) (O : List Nat) (t : Nat) : Bool := t == 0 || !((A[O[t]?.getD 0]?.getD []) == (A[O[t - 1]?.getD 0]?.getD []))

theorem at_first (A : List (List Int)) (n : Nat) (O : List Nat) (hp : O.Perm (List.range n)) (hs : O.Pairwise (fun a b => leB A a b = true)) (t : Nat) (ht : t < n) : atB A O t = firstB A (O[t]?.getD 0) := by
  have hl : O.length = n := by have := hp.length_eq; simpa using this
  have hnd : O.Nodup := hp.nodup_iff.2 List.nodup_range
  have hget : ∀ s, (h : s < n) → O[s]?.getD 0 = O[s]'(by omega) := fun s h => by rw [List.getElem?_eq_getElem (by omega)]; rfl
  have hlt : ∀ s s', s < s' → s' < n → leB A (O[s]?.getD 0) (O[s']?.getD 0) = true := by
    intro s s' h h'
    rw [hget s (by omega), hget s' h']
    exact List.pairwise_iff_getElem.1 hs s s' (by omega) (by omega) h
  rw [Bool.eq_iff_iff, firstB_iff]
  constructor
  · intro h j hj hA
    have hi : O[t]?.getD 0 < n := by
      have : O[t]'(by omega) ∈ List.range n := hp.mem_iff.1 (List.getElem_mem _)
      rw [hget t ht]; simpa using this
    have hjm : j ∈ O := hp.mem_iff.2 (by simp; omega)
    obtain ⟨s, hs1, hs2⟩ := List.getElem_of_mem hjm
    have hsn : s < n := by omega
    have ej : O[s]?.getD 0 = j := by rw [hget s hsn]; exact hs2
    have hne : s ≠ t := by intro e; subst e; omega
    rcases Nat.lt_or_ge t s with hts | hts
    · have := hlt t s hts hsn
      rw [ej, leB_iff, hA, cmp_refl] at this
      omega
    · have hst : s < t := by omega
      unfold atB at h
      rw [Bool.or_eq_true, beq_iff_eq] at h
      rcases h with h | h
      · omega
      · rw [Bool.not_eq_true', beq_eq_false_iff_ne] at h
        apply h
        have h2 := hlt (t - 1) t (by omega) ht
        rw [leB_iff] at h2
        have h1 : cmpL (A[j]?.getD []) (A[O[t - 1]?.getD 0]?.getD []) ≤ 0 := by
          by_cases e : s = t - 1
          · rw [← e, ej, cmp_refl]; omega
          · have := hlt s (t - 1) (by omega) (by omega)
            rw [ej, leB_iff] at this
            omega
        have h3 := cmp_trans _ _ _ h1 (show cmpL (A[O[t - 1]?.getD 0]?.getD []) (A[O[t]?.getD 0]?.getD []) ≤ 0 by omega)
        rw [hA, cmp_refl] at h3
        exact (cmp_eq _ _ (h3.2 rfl).2).symm
  · intro h
    unfold atB
    rw [Bool.or_eq_true, beq_iff_eq]
    by_cases h0 : t = 0
    · exact .inl h0
    · right
      rw [Bool.not_eq_true', beq_eq_false_iff_ne]
      intro e
      have h2 := hlt (t - 1) t (by omega) ht
      rw [leB_iff, e, cmp_refl] at h2
      have hne : O[t - 1]?.getD 0 ≠ O[t]?.getD 0 := by
        rw [hget (t - 1) (by omega), hget t ht]
        intro e2
        exact List.pairwise_iff_getElem.1 hnd (t - 1) t (by omega) (by omega) (by omega) e2
      exact h _ (by omega) e.symm

/-- how many different elements -/
def nDiff (A : List (List Int)) : Nat := (List.range A.length).countP (firstB A)

theorem countP_take_perm (A : List (List Int)) (n : Nat) (O : List Nat) (hp : O.Perm (List.range n)) : O.countP (firstB A) = (List.range n).countP (firstB A) := hp.countP_eq _

theorem firstB_snoc (A : List (List Int)) (x : List Int) (i : Nat) (h : i < A.length) : firstB (A ++ [x]) i = firstB A i := by
  rw [Bool.eq_iff_iff, firstB_iff, firstB_iff]
  constructor
  · intro k j hj
    have := k j hj
    rwa [List.getElem?_append_left (by omega), List.getElem?_append_left h] at this
  · intro k j hj
    rw [List.getElem?_append_left (by omega), List.getElem?_append_left h]
    exact k j hj
theorem firstB_last (A : List (List Int)) (x : List Int) : firstB (A ++ [x]) A.length = !(A.contains x) := by
  rw [Bool.eq_iff_iff, firstB_iff, Bool.not_eq_true', List.contains_eq_mem, decide_eq_false_iff_not]
  constructor
  · intro k hm
    obtain ⟨j, hj, e⟩ := List.getElem_of_mem hm
    have := k j hj
    rw [List.getElem?_append_left hj, List.getElem?_append_right (Nat.le_refl _), List.getElem?_eq_getElem hj] at this
    simp at this
    exact this e
  · intro k j hj e
    rw [List.getElem?_append_left hj, List.getElem?_append_right (Nat.le_refl _), List.getElem?_eq_getElem hj] at e
    simp at e
    exact k (e ▸ List.getElem_mem hj)
theorem nDiff_snoc (A : List (List Int)) (x : List Int) : nDiff (A ++ [x]) = nDiff A + (if A.contains x then 0 else 1) := by
  unfold nDiff
  rw [List.length_append, List.length_singleton, List.range_succ, List.countP_append]
  have e : (List.range A.length).countP (firstB (A ++ [x])) = (List.range A.length).countP (firstB A) := by
    apply List.countP_congr
    intro i hi
    rw [firstB_snoc A x i (by simpa using hi)]
  rw [e, List.countP_singleton, firstB_last]
  cases A.contains x <;> rfl
theorem nDiff_le (A : List (List Int)) : nDiff A ≤ A.length := by
  unfold nDiff
  have := List.countP_le_length (p := firstB A) (l := List.range A.length)
  simpa using this
end Go.Proofs.Qxb6603095a.Pl
