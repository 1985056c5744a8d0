/- Plain steps of the merge, in the form in which the walk meets them. -/
import Derived.Test.Qxb6603095aSortPl
namespace Go.Proofs.Qxb6603095a.Pl

/-- the stretch [p, q) of a list -/
def cutL (I : List Nat) (p q : Nat) : List Nat := (I.drop p).take (q - p)
theorem cutL_nil (I : List Nat) (p q : Nat) (h : q ≤ p) : cutL I p q = [] := by unfold cutL; rw [show q - p = 0 by omega, List.take_zero]
theorem cutL_cons (I : List Nat) (p q : Nat) (h : p < q) (hq : q ≤ I.length) : cutL I p q = I[p]?.getD 0 :: cutL I (p + 1) q := by
  unfold cutL
  rw [List.drop_eq_getElem_cons (by omega), show q - p = (q - (p + 1)) + 1 by omega, List.take_succ_cons, List.getElem?_eq_getElem (by omega)]
  rfl
theorem cutL_len (I : List Nat) (p q : Nat) (hp : p ≤ q) (hq : q ≤ I.length) : (cutL I p q).length = q - p := by
  unfold cutL; rw [List.length_take, List.length_drop]; omega

theorem merge_left (le : Nat → Nat → Bool) (I : List Nat) (p mid q hi : Nat) (hp : p < mid) (hm : mid ≤ I.length) (hh : hi ≤ I.length) (hq : q ≤ hi) (h : q = hi ∨ le (I[p]?.getD 0) (I[q]?.getD 0) = true) :
    (cutL I p mid).merge (cutL I q hi) le = I[p]?.getD 0 :: (cutL I (p + 1) mid).merge (cutL I q hi) le := by
  rw [cutL_cons I p mid hp hm]
  by_cases e : q = hi
  · rw [cutL_nil I q hi (by omega), List.merge_right, List.merge_right]
  · rw [cutL_cons I q hi (by omega) hh, List.cons_merge_cons, if_pos (by rcases h with h | h; exact absurd h e; exact h)]
theorem merge_right (le : Nat → Nat → Bool) (I : List Nat) (p mid q hi : Nat) (hp : p ≤ mid) (hm : mid ≤ I.length) (hh : hi ≤ I.length) (hq : q < hi) (h : p = mid ∨ le (I[p]?.getD 0) (I[q]?.getD 0) = false) :
    (cutL I p mid).merge (cutL I q hi) le = I[q]?.getD 0 :: (cutL I p mid).merge (cutL I (q + 1) hi) le := by
  rw [cutL_cons I q hi hq hh]
  by_cases e : p = mid
  · rw [cutL_nil I p mid (by omega), List.nil_merge, List.nil_merge]
  · rw [cutL_cons I p mid (by omega) hm, List.cons_merge_cons, if_neg (by rcases h with h | h; exact absurd h e; rw [h]; decide)]

theorem set_mid (T out : List Nat) (lo k x : Nat) (hk : k = lo + out.length) (hlt : k < T.length) : (T.take lo ++ out ++ T.drop k).set k x = T.take lo ++ (out ++ [x]) ++ T.drop (k + 1) := by
  have e : (T.take lo ++ out).length = k := by rw [List.length_append, List.length_take]; omega
  rw [List.set_append_right _ _ (by omega), e, Nat.sub_self, List.drop_eq_getElem_cons hlt, List.set_cons_zero]
  simp
theorem mid_len (T out : List Nat) (lo k : Nat) (hk : k = lo + out.length) (hlt : k ≤ T.length) : (T.take lo ++ out ++ T.drop k).length = T.length := by
  rw [List.length_append, List.length_append, List.length_take, List.length_drop]; omega

/-- the two halves, as the walk cuts them and as 'pass_step' does -/
theorem half_one (I : List Nat) (lo W mid n : Nat) (hI : I.length = n) (hm : mid = if (lo : Int) + W < n then lo + W else n) (hlo : lo < n) : cutL I lo mid = (I.drop lo).take W := by
  unfold cutL
  split at hm
  · rw [hm, show lo + W - lo = W by omega]
  · rw [List.take_of_length_le (by rw [List.length_drop]; omega), List.take_of_length_le (by rw [List.length_drop]; omega)]
theorem half_two (I : List Nat) (lo W mid hi n : Nat) (hI : I.length = n) (hm : mid = if (lo : Int) + W < n then lo + W else n) (hh : hi = if (lo : Int) + 2 * W < n then lo + 2 * W else n) : cutL I mid hi = (I.drop (lo + W)).take W := by
  unfold cutL
  split at hm
  · split at hh
    · rw [hm, hh, show lo + 2 * W - (lo + W) = W by omega]
    · rw [hm, List.take_of_length_le (by rw [List.length_drop]; omega), List.take_of_length_le (by rw [List.length_drop]; omega)]
  · rw [hm, List.drop_of_length_le (by omega), List.drop_of_length_le (by omega)]; simp

theorem range_get (n i : Nat) (h : i < n) : (List.range n)[i]?.getD 0 = i := by simp [h]
theorem perm_lt (n : Nat) (I : List Nat) (hp : I.Perm (List.range n)) (i : Nat) (h : i < n) : I[i]?.getD 0 < n := by
  have hl : I.length = n := by have := hp.length_eq; simpa using this
  rw [List.getElem?_eq_getElem (by omega)]
  have : I[i] ∈ List.range n := hp.mem_iff.1 (List.getElem_mem _)
  simpa using this

theorem pass_done (A : List (List Int)) (W m n L mid hi : Nat) (I T out : List Nat) (hW : 0 < W) (hL : L = m * (2 * W)) (hLn : L < n) (hI : I.length = n) (hT : T.length = n)
    (hm : mid = if (L : Int) + W < n then L + W else n) (hh : hi = if (L : Int) + 2 * W < n then L + 2 * W else n)
    (hr : Runs A W I) (hp : (T.take L).Perm (I.take L)) (hrt : Runs A (2 * W) (T.take L)) (ho : (cutL I L mid).merge (cutL I mid hi) (leB A) = out) :
    L + 2 * W = (m + 1) * (2 * W) ∧ (T.take L ++ out ++ T.drop hi).length = n ∧ ((T.take L ++ out ++ T.drop hi).take (L + 2 * W)).Perm (I.take (L + 2 * W)) ∧ Runs A (2 * W) ((T.take L ++ out ++ T.drop hi).take (L + 2 * W)) := by
  have e1 : (m + 1) * (2 * W) = L + 2 * W := by rw [hL, Nat.add_mul]; omega
  have e2 : T.drop hi = T.drop (L + 2 * W) := by
    split at hh
    · rw [hh]
    · rw [List.drop_of_length_le (by omega), List.drop_of_length_le (by omega)]
  have e3 : out = ((I.drop L).take W).merge ((I.drop (L + W)).take W) (leB A) := by
    rw [← ho, half_one I L W mid n hI hm hLn, half_two I L W mid hi n hI hm hh]
  have := pass_step A W m n I T hW hI hT (by rw [← hL]; exact hLn) hr (by rw [← hL]; exact hp) (by rw [← hL]; exact hrt)
  simp only [e1] at this
  rw [← hL] at this
  rw [e2, e3]
  exact ⟨e1.symm, this.1, this.2.1, this.2.2⟩
end Go.Proofs.Qxb6603095a.Pl
