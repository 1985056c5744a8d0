/- The plain mathematics of the law on isScalar: JSON's numbers by an automaton, and by reading on. No Go in sight. -/
namespace Go.Proofs.Qxb6603095a.Pl

def digB (c : Int) : Bool := decide (48 ≤ c) && decide (c ≤ 57)

def numStep (q c : Int) : Int :=
  if q = 0 then (if c = 45 then 1 else if c = 48 then 2 else if 49 ≤ c ∧ c ≤ 57 then 3 else -1)
  else if q = 1 then (if c = 48 then 2 else if 49 ≤ c ∧ c ≤ 57 then 3 else -1)
  else if q = 2 then (if c = 46 then 4 else if c = 101 ∨ c = 69 then 6 else -1)
  else if q = 3 then (if 48 ≤ c ∧ c ≤ 57 then 3 else if c = 46 then 4 else if c = 101 ∨ c = 69 then 6 else -1)
  else if q = 4 then (if 48 ≤ c ∧ c ≤ 57 then 5 else -1)
  else if q = 5 then (if 48 ≤ c ∧ c ≤ 57 then 5 else if c = 101 ∨ c = 69 then 6 else -1)
  else if q = 6 then (if c = 43 ∨ c = 45 then 7 else if 48 ≤ c ∧ c ≤ 57 then 8 else -1)
  else (if 48 ≤ c ∧ c ≤ 57 then 8 else -1)

theorem numStep_bd (q c : Int) : -1 ≤ numStep q c ∧ numStep q c ≤ 8 := by
  unfold numStep
  repeat' split
  all_goals omega

def runL (q : Int) : List Int → Int
  | [] => q
  | c :: t => if numStep q c < 0 then -1 else runL (numStep q c) t

def accB (q : Int) : Bool := q == 2 || q == 3 || q == 5 || q == 8
def autB (t : List Int) : Bool := accB (runL 0 t)

/-- the digits at the front, dropped -/
def skipD : List Int → List Int
  | [] => []
  | c :: t => if 48 ≤ c ∧ c ≤ 57 then skipD t else c :: t

def skipSign : List Int → List Int
  | [] => []
  | c :: t => if c = 43 ∨ c = 45 then t else c :: t

def expTail (r : List Int) : Bool := decide ((skipD r).length ≠ r.length) && (skipD r).isEmpty
def expL : List Int → Bool
  | [] => true
  | c :: r => if c = 101 ∨ c = 69 then expTail (skipSign r) else false
def fracL : List Int → Bool
  | [] => true
  | c :: r => if c = 46 then (if (skipD r).length = r.length then false else expL (skipD r)) else expL (c :: r)
def intL : List Int → Bool
  | [] => false
  | c :: r => if c = 48 then fracL r else if 49 ≤ c ∧ c ≤ 57 then fracL (skipD r) else false
def numL : List Int → Bool
  | [] => false
  | c :: r => if c = 45 then intL r else intL (c :: r)

theorem skipD_le (t : List Int) : (skipD t).length ≤ t.length := by
  induction t with
  | nil => simp [skipD]
  | cons c t ih => unfold skipD; split <;> simp; omega
theorem skipD_head (t : List Int) (c : Int) (r : List Int) (h : skipD t = c :: r) : ¬ (48 ≤ c ∧ c ≤ 57) := by
  induction t with
  | nil => simp [skipD] at h
  | cons x t ih =>
    unfold skipD at h
    split at h
    · exact ih h
    · simp at h; rw [← h.1]; assumption

theorem run_dead (q c : Int) (t : List Int) (h : numStep q c = -1) : accB (runL q (c :: t)) = false := by
  simp [runL, h]; rfl
theorem run_on (q c q' : Int) (t : List Int) (h : numStep q c = q') (h0 : 0 ≤ q') : runL q (c :: t) = runL q' t := by
  simp only [runL, h]; rw [if_neg (by omega)]

theorem acc8 (t : List Int) : accB (runL 8 t) = (skipD t).isEmpty := by
  induction t with
  | nil => rfl
  | cons c t ih =>
    by_cases h : 48 ≤ c ∧ c ≤ 57
    · rw [run_on 8 c 8 t (by simp [numStep, h]) (by omega), ih]; simp [skipD, h]
    · rw [run_dead 8 c t (by simp [numStep, h])]; simp [skipD, h]
theorem acc7 (t : List Int) : accB (runL 7 t) = expTail t := by
  cases t with
  | nil => rfl
  | cons c t =>
    have hle := skipD_le t
    by_cases h : 48 ≤ c ∧ c ≤ 57
    · rw [run_on 7 c 8 t (by simp [numStep, h]) (by omega), acc8]
      simp [expTail, skipD, h]; intro _; omega
    · rw [run_dead 7 c t (by simp [numStep, h])]
      simp [expTail, skipD, h]
theorem acc6 (t : List Int) : accB (runL 6 t) = expTail (skipSign t) := by
  cases t with
  | nil => rfl
  | cons c t =>
    by_cases h : c = 43 ∨ c = 45
    · rw [run_on 6 c 7 t (by simp [numStep, h]) (by omega), acc7]; simp [skipSign, h]
    · have hle := skipD_le t
      simp only [skipSign, if_neg h]
      by_cases h2 : 48 ≤ c ∧ c ≤ 57
      · rw [run_on 6 c 8 t (by simp [numStep, h, h2]) (by omega), acc8]
        simp [expTail, skipD, h2]; intro _; omega
      · rw [run_dead 6 c t (by simp [numStep, h, h2])]
        simp [expTail, skipD, h2]
theorem acc5 (t : List Int) : accB (runL 5 t) = expL (skipD t) := by
  induction t with
  | nil => rfl
  | cons c t ih =>
    by_cases h : 48 ≤ c ∧ c ≤ 57
    · rw [run_on 5 c 5 t (by simp [numStep, h]) (by omega), ih]; simp [skipD, h]
    · have e : skipD (c :: t) = c :: t := by simp [skipD, h]
      rw [e]
      by_cases h2 : c = 101 ∨ c = 69
      · rw [run_on 5 c 6 t (by simp [numStep, h, h2]) (by omega), acc6]; simp [expL, h2]
      · rw [run_dead 5 c t (by simp [numStep, h, h2])]; simp [expL, h2]
theorem acc4 (t : List Int) : accB (runL 4 t) = (if (skipD t).length = t.length then false else expL (skipD t)) := by
  cases t with
  | nil => rfl
  | cons c t =>
    have hle := skipD_le t
    by_cases h : 48 ≤ c ∧ c ≤ 57
    · have e : skipD (c :: t) = skipD t := by simp [skipD, h]
      rw [run_on 4 c 5 t (by simp [numStep, h]) (by omega), acc5, e, if_neg (by simp; omega)]
    · rw [run_dead 4 c t (by simp [numStep, h])]; simp [skipD, h]
theorem acc2 (t : List Int) : accB (runL 2 t) = fracL t := by
  cases t with
  | nil => rfl
  | cons c t =>
    by_cases h : c = 46
    · rw [run_on 2 c 4 t (by simp [numStep, h]) (by omega), acc4]; simp [fracL, h]
    · have e : fracL (c :: t) = expL (c :: t) := by simp [fracL, h]
      rw [e]
      by_cases h2 : c = 101 ∨ c = 69
      · rw [run_on 2 c 6 t (by simp [numStep, h, h2]) (by omega), acc6]; simp [expL, h2]
      · rw [run_dead 2 c t (by simp [numStep, h, h2])]; simp [expL, h2]
theorem acc3 (t : List Int) : accB (runL 3 t) = fracL (skipD t) := by
  induction t with
  | nil => rfl
  | cons c t ih =>
    by_cases h : 48 ≤ c ∧ c ≤ 57
    · rw [run_on 3 c 3 t (by simp [numStep, h]) (by omega), ih]; simp [skipD, h]
    · have e : skipD (c :: t) = c :: t := by simp [skipD, h]
      rw [e]
      by_cases h1 : c = 46
      · rw [run_on 3 c 4 t (by simp [numStep, h1]) (by omega), acc4]; simp [fracL, h1]
      · have e2 : fracL (c :: t) = expL (c :: t) := by simp [fracL, h1]
        rw [e2]
        by_cases h2 : c = 101 ∨ c = 69
        · rw [run_on 3 c 6 t (by simp [numStep, h, h1, h2]) (by omega), acc6]; simp [expL, h2]
        · rw [run_dead 3 c t (by simp [numStep, h, h1, h2])]; simp [expL, h2]
theorem acc1 (t : List Int) : accB (runL 1 t) = intL t := by
  cases t with
  | nil => rfl
  | cons c t =>
    by_cases h : c = 48
    · rw [run_on 1 c 2 t (by simp [numStep, h]) (by omega), acc2]; simp [intL, h]
    · by_cases h2 : 49 ≤ c ∧ c ≤ 57
      · rw [run_on 1 c 3 t (by simp [numStep, h, h2]) (by omega), acc3]; simp [intL, h, h2]
      · rw [run_dead 1 c t (by simp [numStep, h, h2])]; simp [intL, h, h2]
theorem acc0 (t : List Int) : autB t = numL t := by
  unfold autB
  cases t with
  | nil => rfl
  | cons c t =>
    by_cases h0 : c = 45
    · rw [run_on 0 c 1 t (by simp [numStep, h0]) (by omega), acc1]; simp [numL, h0]
    · have e : numL (c :: t) = intL (c :: t) := by simp [numL, h0]
      rw [e]
      by_cases h : c = 48
      · rw [run_on 0 c 2 t (by simp [numStep, h]) (by omega), acc2]; simp [intL, h]
      · by_cases h2 : 49 ≤ c ∧ c ≤ 57
        · rw [run_on 0 c 3 t (by simp [numStep, h0, h, h2]) (by omega), acc3]; simp [intL, h, h2]
        · rw [run_dead 0 c t (by simp [numStep, h0, h, h2])]; simp [intL, h, h2]
end Go.Proofs.Qxb6603095a.Pl
