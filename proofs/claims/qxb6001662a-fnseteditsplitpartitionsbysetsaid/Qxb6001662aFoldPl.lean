namespace Go.Proofs.Qxb6001662a.Pl
set_option linter.unusedVariables false

def lowI (b : Int) : Int := if 65 ≤ b ∧ b ≤ 90 then b + 32 else b
def flipI (b : Int) : Int := if 65 ≤ b ∧ b ≤ 90 then b + 32 else if 97 ≤ b ∧ b ≤ 122 then b - 32 else b
def upI (b : Int) : Int := if 97 ≤ b ∧ b ≤ 122 then b - 32 else b
def isLowI (b : Int) : Bool := decide (97 ≤ b) && decide (b ≤ 122)
def isUpI (b : Int) : Bool := decide (65 ≤ b) && decide (b ≤ 90)
theorem low_flip (b : Int) : lowI (flipI b) = lowI b := by
  unfold lowI flipI
  split <;> split <;> (try split) <;> (try split) <;> (try split) <;> omega
theorem low_up (b : Int) : lowI (upI b) = lowI b := by
  unfold lowI upI
  split <;> split <;> (try split) <;> (try split) <;> omega
theorem low_low (b : Int) : isUpI (lowI b) = false := by
  unfold isUpI lowI
  rw [Bool.and_eq_false_iff, decide_eq_false_iff_not, decide_eq_false_iff_not]
  split <;> omega
theorem low_bd (b : Int) (h : 0 ≤ b ∧ b ≤ 255) : 0 ≤ lowI b ∧ lowI b ≤ 255 := by
  unfold lowI; split <;> omega
theorem flip_bd (b : Int) (h : 0 ≤ b ∧ b ≤ 255) : 0 ≤ flipI b ∧ flipI b ≤ 255 := by
  unfold flipI; split <;> (try split) <;> omega
theorem up_bd (b : Int) (h : 0 ≤ b ∧ b ≤ 255) : 0 ≤ upI b ∧ upI b ≤ 255 := by
  unfold upI; split <;> omega

/-- what equalFold answers -/
def eqf (N L : List Int) : Bool := (List.range N.length).all fun i => lowI (N[i]?.getD 0) == L[i]?.getD 0
theorem eqf_iff (N L : List Int) : eqf N L = true ↔ ∀ i, i < N.length → lowI (N[i]?.getD 0) = L[i]?.getD 0 := by
  unfold eqf
  rw [List.all_eq_true]
  constructor
  · intro h i hi; exact eq_of_beq (h i (List.mem_range.2 hi))
  · intro h i hi; rw [beq_iff_eq]; exact h i (List.mem_range.1 hi)
theorem map_get (f : Int → Int) (N : List Int) (i : Nat) (h : i < N.length) : (N.map f)[i]?.getD 0 = f (N[i]?.getD 0) := by
  rw [List.getElem?_map, List.getElem?_eq_getElem h]; rfl
theorem eqf_map (f : Int → Int) (hf : ∀ b, lowI (f b) = lowI b) (N L : List Int) : eqf (N.map f) L = eqf N L := by
  rw [Bool.eq_iff_iff, eqf_iff, eqf_iff, List.length_map]
  constructor
  · intro h i hi; have := h i hi; rwa [map_get f N i hi, hf] at this
  · intro h i hi; rw [map_get f N i hi, hf]; exact h i hi
theorem eqf_own (N R : List Int) : eqf N (N.map lowI ++ R) = true := by
  rw [eqf_iff]
  intro i hi
  rw [List.getElem?_append_left (by rw [List.length_map]; exact hi), map_get _ _ _ hi]
theorem map_bd (f : Int → Int) (hf : ∀ b, 0 ≤ b ∧ b ≤ 255 → 0 ≤ f b ∧ f b ≤ 255) (N : List Int) (h : ∀ i : Nat, 0 ≤ N[i]?.getD 0 ∧ N[i]?.getD 0 ≤ 255) (i : Nat) : 0 ≤ (N.map f)[i]?.getD 0 ∧ (N.map f)[i]?.getD 0 ≤ 255 := by
  by_cases hi : i < N.length
  · rw [map_get f N i hi]; exact hf _ (h i)
  · rw [List.getElem?_eq_none (by rw [List.length_map]; omega)]; simp
end Go.Proofs.Qxb6001662a.Pl
