import Derived.Test.Qxb6603095aSet1
import Derived.Test.Qxb6603095aFirsts
namespace Go.Proofs.Qxb6603095a.Wl
open Go.RowKit Go.Maps Go.WideMaps
open Go.Proofs.Qxb6603095a.Pl Go.Proofs.Qxb6603095a.Bs
set_option linter.unusedVariables false

/-- as 'zzAddKey_any', and a map that was made is new -/
theorem zzAddKey_new (base : Nat) (obj : Bool) (f : Nat) (it : Int) (sm : Option Nat) (aK : Option Addr) (n cK : Nat) (bad : Nat → Prop) (K S : List (List Int)) (ak : Option Addr) (mk ck : Nat) (Z : List Int) (w : World)
    (hK : OwnList w base (.slice aK n cK) bad K) (hKn : K.length = n) (hB : base ≤ w.heap.size) (hf : f ≤ n) (hn : n ≤ 1000000) (hmk : mk ≤ maxLen) (hZ : TextOff w bad ak mk Z)
    (hsm : sm = none ∨ ∃ M, sm = some M ∧ SetIs w M S ∧ (∀ z ∈ S, Bytes z) ∧ S.length ≤ 1000000 ∧ ∀ z, z ∈ S ↔ z ∈ K.drop f) :
    Calls Try.prog 19 #[.bool obj, .int .i64 f, .int .i64 it, .map sm, .slice aK n cK, .slice ak mk ck] w fun e w' => ∃ out added sm', e = .returned (.tuple #[out, .bool added, .bool obj, .int .i64 f, .int .i64 it, .map sm']) ∧ AddPost base f n sm (.slice aK n cK) bad K S Z w w' out added sm' ∧ (sm = none → ∀ M, sm' = some M → w.heap.size ≤ M) := by
  refine zz_of obj f it sm _ _ w (fun out added sm' w' => AddPost base f n sm (.slice aK n cK) bad K S Z w w' out added sm' ∧ (sm = none → ∀ M, sm' = some M → w.heap.size ≤ M)) ?_ (fun _ _ _ _ _ h hd => ⟨h.1.drawn hd, h.2⟩)
  have hbx := box_new w obj f it sm
  have kA := Keeps.alloc w (.cells #[.bool obj, .int .i64 f, .int .i64 it, .map sm] 49) (fun _ => False)
  have hsz : (w.alloc (.cells #[.bool obj, .int .i64 f, .int .i64 it, .map sm] 49)).heap.size = w.heap.size + 1 := Go.Deep.nblk_alloc _ _
  have hvlt : ∀ b, (Value.slice aK n cK).ownBlock = some b → b < w.heap.size := by
    intro b hb
    obtain ⟨xs, hr, _⟩ := hK
    exact (hr.lt b hb).2
  -- in the new world, the box among the bad blocks
  have K0 : OwnList (w.alloc (.cells #[.bool obj, .int .i64 f, .int .i64 it, .map sm] 49)) base (.slice aK n cK) (fun k => bad k ∨ w.heap.size ≤ k) K := by
    have h1 := hK.change (bad' := fun k => bad k ∨ w.heap.size ≤ k) (fun k h => .inl h) (fun a n Z h => h.andNew)
    exact h1.keeps kA (fun _ _ h => h.elim) (fun _ _ h => h)
  have Z0 : TextOff (w.alloc (.cells #[.bool obj, .int .i64 f, .int .i64 it, .map sm] 49)) (fun k => bad k ∨ w.heap.size ≤ k) ak mk Z := hZ.andNew.keeps kA (fun _ _ h => h.elim)
  have hbp : (fun k => bad k ∨ w.heap.size ≤ k) w.heap.size := .inr (Nat.le_refl _)
  have hpK : (Value.slice aK n cK).ownBlock ≠ some w.heap.size := fun h => by have := hvlt _ h; omega
  have kA2 : ∀ bad'', Keeps w (w.alloc (.cells #[.bool obj, .int .i64 f, .int .i64 it, .map sm] 49)) bad'' := fun _ => Keeps.alloc _ _ _
  generalize w.alloc (.cells #[.bool obj, .int .i64 f, .int .i64 it, .map sm] 49) = w0 at *
  obtain ⟨aF, cF, eF, hnc, hL⟩ := K0.form
  rw [hKn] at eF hnc hL
  cases eF
  rcases hsm with rfl | ⟨M, rfl, hS, hSb, hSl, hiff⟩
  · by_cases hmem : Z ∈ K.drop f
    · refine (addKey_nil_dup w.heap.size obj f it aK n cK K ak mk ck Z w0 hbx hL hnc hf hn Z0.1 hmem).mono ?_
      rintro e w' ⟨rfl, rfl⟩
      exact ⟨_, _, none, rfl, hbx, .inl ⟨hmem, rfl, rfl, rfl, kA2 _⟩, fun _ M h => by cases h⟩
    · by_cases h16 : n - f < 16
      · refine (addKey_nil_few base w.heap.size obj f it aK n cK _ K ak mk ck Z w0 hbx K0 hKn (by omega) hf hn hmk Z0 hmem h16).mono ?_
        rintro e w' ⟨v', rfl, h1, h2, h3⟩
        refine ⟨_, _, none, rfl, hbx.keeps h2 (fun h => hpK h.symm), .inr ⟨hmem, rfl, ⟨_, h1, ?_⟩, fun a c e hc => ((kA2 _).trans (h3 (by cases e; exact hc))).mono (fun _ _ h => h.elim), .inl ⟨rfl, h16, rfl, (kA2 _).trans h2⟩⟩, fun _ M h => by cases h⟩
        intro k hk h
        rcases h with (h | h) | h
        · exact .inl h
        · omega
        · omega
      · refine (addKey_nil_many base w.heap.size obj f it aK n cK _ K ak mk ck Z w0 hbx K0 hKn (by omega) hbp hpK hf hn hmk Z0 hmem h16).mono ?_
        rintro e w' ⟨v', B1, M, rfl, hB1, hM, h1, h2, h3, h4, h5⟩
        have h5' : ∀ a c, Value.slice aK n cK = .slice a n c → c < n + 1 → Keeps w w' (fun k => some k = none) := by
          intro a c e hc
          have h5' := h5 (by cases e; exact hc)
          refine ⟨h5'.os.trans (kA2 (fun _ => False)).os, h5'.tape.trans (kA2 (fun _ => False)).tape, h5'.output.trans (kA2 (fun _ => False)).output, Nat.le_trans (kA2 (fun _ => False)).size h5'.size, fun k hk _ => ?_⟩
          rw [h5'.block k (by omega) (fun h => by omega)]
          exact (kA2 (fun _ => False)).block k hk (fun h => h)
        refine ⟨_, _, some M, rfl, h3, .inr ⟨hmem, rfl, ⟨_, h1, ?_⟩, h5', .inr (.inl ⟨rfl, h16, ⟨M, rfl, h2⟩, ?_⟩)⟩, fun _ M' h => by cases h; omega⟩
        · intro k hk h
          rcases h with (h | h) | h
          · exact .inl h
          · omega
          · omega
        · refine ⟨h4.os.trans (kA2 (fun _ => False)).os, h4.tape.trans (kA2 (fun _ => False)).tape, h4.output.trans (kA2 (fun _ => False)).output, Nat.le_trans (kA2 (fun _ => False)).size h4.size, fun k hk hn => ?_⟩
          rw [h4.block k (by omega) (fun h => by rcases h with h | h; exact hn h; omega)]
          exact (kA2 (fun _ => False)).block k hk (fun h => h)
  · have hMw := hS.lt
    have hS0 : SetIs w0 M S := hS.of_block ((kA2 (fun _ => False)).block M hMw (fun h => h))
    by_cases hmem : Z ∈ K.drop f
    · refine (addKey_set_dup w.heap.size M obj f it aK n cK S ak mk ck Z w0 hbx hS0 hSb hn hmk Z0.1 ((hiff Z).2 hmem)).mono ?_
      rintro e w' ⟨rfl, hd⟩
      exact ⟨_, _, some M, rfl, hbx.keeps (Keeps.drawn hd (fun _ => False)) (fun h => h), .inl ⟨hmem, rfl, rfl, rfl, (kA2 _).trans (Keeps.drawn hd _)⟩, fun h => by cases h⟩
    · have K1 := K0.change (bad' := fun k => (bad k ∨ w.heap.size ≤ k) ∨ k = M) (fun k h => .inl h) (fun a n Z h => h.andMap hS0)
      have Z1 := Z0.andMap hS0
      refine (addKey_set_new base w.heap.size M obj f it aK n cK _ K S ak mk ck Z w0 hbx K1 hKn (by omega) (.inr rfl) (own_ne_map K0 hS0) hS0 hSb hSl hn hmk Z1 (fun h => hmem ((hiff Z).1 h))).mono ?_
      rintro e w' ⟨v', B1, rfl, hB1, h1, h2, h3, h4⟩
      have hbx' : BoxAt w' w.heap.size obj f it (some M) := hbx.keeps h3 (fun h => by rcases h with h | h; exact hpK h.symm; omega)
      refine ⟨_, _, some M, rfl, hbx', .inr ⟨hmem, rfl, ⟨_, h1, ?_⟩, fun a c e hc => ((kA2 _).trans (h4 (by cases e; exact hc))).mono (fun k _ h => by rw [h]), .inr (.inr ⟨M, rfl, rfl, h2, (kA2 _).trans h3⟩)⟩, fun h => by cases h⟩
      intro k hk h
      rcases h with ((h | h) | h) | h
      · exact .inl h
      · omega
      · exact .inr (by rw [h])
      · omega

/-- between two rounds of the script: 'T' is what went in so far -/
def Inv (wk wr : World) (B0 : Nat) (O T : List (List Int)) (v : Value) (sm : Option Nat) : Prop :=
  Below B0 wk wr ∧ B0 ≤ wr.heap.size ∧ (∃ bad, OwnList wr B0 v bad (O ++ firsts T) ∧ ∀ k, bad k → B0 ≤ k) ∧
  ((sm = none ∧ nDiff T ≤ 16) ∨ ∃ M, sm = some M ∧ 16 < nDiff T ∧ B0 ≤ M ∧ SetIs wr M (firsts T))

theorem Inv.drawn {wk wr w' : World} {B0 : Nat} {O T : List (List Int)} {v : Value} {sm : Option Nat} (h : Inv wk wr B0 O T v sm) (hd : Drawn wr w') : Inv wk w' B0 O T v sm := by
  obtain ⟨h1, h2, ⟨bad, h3, h4⟩, h5⟩ := h
  refine ⟨h1.trans (hd.below _), Nat.le_trans h2 (hd.below 0).size, ⟨bad, h3.keeps (Keeps.drawn hd (fun _ => False)) (fun _ _ h => h.elim) (fun _ _ h => h), h4⟩, ?_⟩
  rcases h5 with h | ⟨M, a, b, c, d⟩
  · exact .inl h
  · exact .inr ⟨M, a, b, c, d.drawn hd⟩

theorem zzStep_any (wk wr : World) (B0 : Nat) (O T : List (List Int)) (v : Value) (sm : Option Nat) (a : Option Addr) (m c : Nat) (Z : List Int)
    (hI : Inv wk wr B0 O T v sm) (hB : B0 ≤ wk.heap.size) (hO : O.length ≤ 65536) (hT : T.length ≤ 65536) (hTb : ∀ z ∈ T, Bytes z) (hm : m ≤ maxLen) (hZ1 : TextIn wr B0 a m Z) (f : Nat) (hf : O.length = f) :
    Calls Try.prog 19 #[.bool true, .int .i64 f, .int .i64 0, .map sm, v, .slice a m c] wr fun e w' => ∃ out sm', e = .returned (.tuple #[out, .bool (!(T.contains Z)), .bool true, .int .i64 f, .int .i64 0, .map sm']) ∧ Inv wk w' B0 O (T ++ [Z]) out sm' := by
  subst hf
  obtain ⟨h1, h2, ⟨bad, h3, h4⟩, h5⟩ := hI
  obtain ⟨aF, cF, rfl, hc, hL⟩ := h3.form
  have hdl := nDiff_le T
  have hlen : (O ++ firsts T).length = O.length + nDiff T := by rw [List.length_append, length_firsts]
  have hdrop : (O ++ firsts T).drop O.length = firsts T := List.drop_left
  have hZo : TextOff wr bad a m Z := by
    refine ⟨hZ1.mono h2, fun hp x e hh => ?_⟩
    obtain ⟨b, off, e2, hl, _⟩ := hZ1.2.2 hp
    rw [e] at e2
    cases e2
    have := h4 _ hh
    simp only at this
    omega
  have hown : ∀ k, some k = (Value.slice aF (O ++ firsts T).length cF).ownBlock → B0 ≤ k := by
    intro k hk
    obtain ⟨xs, hr, _⟩ := h3
    exact (hr.lt k hk.symm).1
  refine (zzAddKey_new B0 true O.length 0 sm aF _ cF bad (O ++ firsts T) (firsts T) a m c Z wr h3 rfl h2 (by omega) (by omega) hm hZo (by
    rcases h5 with h | ⟨M, a, b, c, d⟩
    · exact .inl h.1
    · exact .inr ⟨M, a, d, fun z hz => hTb z ((mem_firsts T z).1 hz), by rw [length_firsts]; omega, fun z => by rw [hdrop]⟩)).mono ?_
  rintro e w' ⟨out, added, sm', rfl, hp, hfresh⟩
  rcases hp with ⟨hmem, rfl, rfl, rfl, hk⟩ | ⟨hmem, rfl, ⟨bad', hO', hbad'⟩, _, hcase⟩
  · rw [hdrop, mem_firsts] at hmem
    have hct : T.contains Z = true := List.contains_iff_mem.2 hmem
    refine ⟨_, _, by rw [hct]; rfl, h1.trans (hk.below _ h2 (fun _ _ h => h)), Nat.le_trans h2 hk.size, ⟨bad, ?_, h4⟩, ?_⟩
    · rw [firsts_snoc', if_pos hct]
      exact h3.keeps hk (fun _ _ h => h.elim) (fun _ _ h => h)
    · rw [nDiff_snoc, if_pos hct, firsts_snoc', if_pos hct]
      rcases h5 with h | ⟨M, a, b, c, d⟩
      · exact .inl h
      · exact .inr ⟨M, a, b, c, d.of_block (hk.block M d.lt (fun h => h))⟩
  · rw [hdrop, mem_firsts] at hmem
    have hct : T.contains Z = false := by rw [List.contains_eq_mem, decide_eq_false_iff_not]; exact hmem
    have hfs : firsts (T ++ [Z]) = firsts T ++ [Z] := by rw [firsts_snoc', hct]; rfl
    have hnd : nDiff (T ++ [Z]) = nDiff T + 1 := by rw [nDiff_snoc, hct]; rfl
    have hB1 : ∀ k, bad' k → B0 ≤ k := by
      intro k hk
      by_cases hlt : k < wr.heap.size
      · rcases hbad' k hlt hk with h | h
        · exact h4 k h
        · rcases h5 with ⟨h', _⟩ | ⟨M, a, b, c, d⟩
          · rw [h'] at h; cases h
          · rw [a] at h; cases h; exact c
      · omega
    have hkeep : ∃ bb, Keeps wr w' bb ∧ ∀ k, bb k → B0 ≤ k := by
      rcases hcase with ⟨_, _, _, hk⟩ | ⟨_, _, _, hk⟩ | ⟨M, rfl, rfl, _, hk⟩
      · exact ⟨_, hk, hown⟩
      · exact ⟨_, hk, hown⟩
      · refine ⟨_, hk, fun k h => ?_⟩
        rcases h with h | rfl
        · exact hown k h
        · rcases h5 with ⟨h', _⟩ | ⟨M', a, b, c, d⟩
          · cases h'
          · cases a; exact c
    obtain ⟨bb, hk, hbb⟩ := hkeep
    refine ⟨_, _, by rw [hct]; rfl, h1.trans (hk.below _ h2 (fun k hk h => by have := hbb k h; omega)), Nat.le_trans h2 hk.size, ⟨bad', ?_, hB1⟩, ?_⟩
    · rw [hfs, ← List.append_assoc]
      exact hO'
    · rw [hfs, hnd]
      rw [hdrop] at hcase
      rw [hlen] at hcase
      rcases hcase with ⟨h0, h16, rfl, _⟩ | ⟨h0, h16, ⟨M, rfl, hS⟩, _⟩ | ⟨M, rfl, rfl, hS, _⟩
      · exact .inl ⟨rfl, by omega⟩
      · refine .inr ⟨M, rfl, ?_, ?_, hS⟩
        · omega
        · have := hfresh h0 M rfl
          omega
      · rcases h5 with ⟨h', _⟩ | ⟨M', a, b, c, d⟩
        · cases h'
        · cases a
          exact .inr ⟨M, rfl, by omega, c, hS⟩
end Go.Proofs.Qxb6603095a.Wl
