/- The plain mathematics of the law on encoded words: what the encoder writes, the decoder reads back. -/
import Derived.Test.Qxb6603095aPlain
namespace Go.Proofs.Qxb6603095a.Pl

def hexDig (v : Int) (up : Bool) : Int := if v < 10 then 48 + v else if up = true then 55 + v else 87 + v
def enc (c m : Int) : List Int := if m = 0 then [c] else [92, 117, 48, 48, hexDig (c / 16) (m == 2), hexDig (c % 16) (m == 2)]
def encL (P : List (Int × Int)) : List Int := P.flatMap fun p => enc p.1 p.2

theorem hexDig_bd (v : Int) (up : Bool) (h0 : 0 ≤ v) (h1 : v ≤ 15) : 48 ≤ hexDig v up ∧ hexDig v up ≤ 102 := by
  unfold hexDig; split
  · omega
  · split <;> omega
theorem hexVal_dig (v : Int) (up : Bool) (h0 : 0 ≤ v) (h1 : v ≤ 15) : hexVal (hexDig v up) = v := by
  unfold hexDig
  split
  · unfold hexVal; rw [if_pos (by omega)]; omega
  · split
    · unfold hexVal; rw [if_neg (by omega), if_neg (by omega), if_pos (by omega)]; omega
    · unfold hexVal; rw [if_neg (by omega), if_pos (by omega)]; omega
theorem letter_bd (c : Int) (h : isLetterB c = true) : 65 ≤ c ∧ c ≤ 122 ∧ c ≠ 92 := by
  unfold isLetterB at h
  simp at h
  omega
theorem enc_len (c m : Int) : 1 ≤ (enc c m).length ∧ (enc c m).length ≤ 6 := by unfold enc; split <;> simp
theorem enc_bd (c m : Int) (h0 : 0 ≤ c) (h1 : c ≤ 255) : ∀ x ∈ enc c m, 0 ≤ x ∧ x ≤ 255 := by
  intro x hx
  unfold enc at hx
  split at hx
  · simp at hx; omega
  · have d1 := hexDig_bd (c / 16) (m == 2) (by omega) (by omega)
    have d2 := hexDig_bd (c % 16) (m == 2) (by omega) (by omega)
    simp at hx
    omega

theorem dec_enc (f : Nat) (c m : Int) (r : List Int) (hc : isLetterB c = true) : dec (f + 1) (enc c m ++ r) = (dec f r).map (c :: ·) := by
  have hb := letter_bd c hc
  unfold enc
  split
  · have hs : stepL ([c] ++ r) = some (c, 1) := by
      unfold stepL
      rw [if_neg (by simp), if_pos (by simp; omega)]
      simp
    conv => lhs; unfold dec
    rw [if_neg (by simp), hs]
    simp
  · have e1 := hexVal_dig (c / 16) (m == 2) (by omega) (by omega)
    have e2 := hexVal_dig (c % 16) (m == 2) (by omega) (by omega)
    generalize hexDig (c / 16) (m == 2) = x at *
    generalize hexDig (c % 16) (m == 2) = y at *
    have h48 : hexVal 48 = 0 := by decide
    have hs : stepL ([92, 117, 48, 48, x, y] ++ r) = some (c, 6) := by
      unfold stepL
      simp [hexTo, h48, e1, e2]
      omega
    conv => lhs; unfold dec
    rw [if_neg (by simp), hs]
    simp

theorem dec_encL (P : List (Int × Int)) (h : ∀ p ∈ P, isLetterB p.1 = true) : dec P.length (encL P) = some (P.map (·.1)) := by
  induction P with
  | nil => rfl
  | cons p P ih =>
    have e : encL (p :: P) = enc p.1 p.2 ++ encL P := by simp [encL]
    rw [e, List.length_cons, dec_enc _ _ _ _ (h p (by simp)), ih fun q hq => h q (by simp [hq])]
    rfl
theorem encL_snoc (P : List (Int × Int)) (c m : Int) : encL (P ++ [(c, m)]) = encL P ++ enc c m := by simp [encL]
theorem encL_len (P : List (Int × Int)) : (encL P).length ≤ 6 * P.length := by
  induction P with
  | nil => simp [encL]
  | cons p P ih =>
    have e : encL (p :: P) = enc p.1 p.2 ++ encL P := by simp [encL]
    have := enc_len p.1 p.2
    rw [e, List.length_append, List.length_cons]; omega
theorem letter_all (P : List (Int × Int)) (L : List Int) (h : P.map (·.1) = L) (hL : ∀ c ∈ L, isLetterB c = true) : ∀ p ∈ P, isLetterB p.1 = true := by
  intro p hp
  apply hL
  rw [← h]
  exact List.mem_map_of_mem hp
end Go.Proofs.Qxb6603095a.Pl
