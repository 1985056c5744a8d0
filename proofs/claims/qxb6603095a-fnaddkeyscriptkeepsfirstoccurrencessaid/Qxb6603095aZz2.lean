import Derived.Test.Qxb6603095aZz
namespace Go.Proofs.Qxb6603095a.Wl
open Go.RowKit Go.Maps Go.WideMaps
open Go.Proofs.Qxb6603095a.Pl Go.Proofs.Qxb6603095a.Bs
set_option linter.unusedVariables false

theorem box_new (w : World) (obj : Bool) (f it : Int) (sm : Option Nat) : BoxAt (w.alloc (.cells #[.bool obj, .int .i64 f, .int .i64 it, .map sm] 49)) w.heap.size obj f it sm := by
  have h := Go.Deep.blk_alloc_new w (.cells #[.bool obj, .int .i64 f, .int .i64 it, .map sm] 49)
  generalize w.alloc (.cells #[.bool obj, .int .i64 f, .int .i64 it, .map sm] 49) = w0 at *
  constructor <;> simp [World.cell?, World.frozen?, h]

theorem AddPost.drawn {base f n : Nat} {sm : Option Nat} {v : Value} {bad : Nat → Prop} {K S : List (List Int)} {Z : List Int} {w w1 w2 : World} {out : Value} {added : Bool} {sm' : Option Nat}
    (h : AddPost base f n sm v bad K S Z w w1 out added sm') (hd : Drawn w1 w2) : AddPost base f n sm v bad K S Z w w2 out added sm' := by
  rcases h with ⟨h1, h2, h3, h4, h5⟩ | ⟨h1, h2, ⟨bad', h3, h4⟩, h6, h5⟩
  · exact .inl ⟨h1, h2, h3, h4, h5.trans (Keeps.drawn hd _)⟩
  · refine .inr ⟨h1, h2, ⟨bad', h3.keeps (Keeps.drawn hd (fun _ => False)) (fun _ _ h => h.elim) (fun _ _ h => h), h4⟩, fun a c e hc => (h6 a c e hc).trans (Keeps.drawn hd _), ?_⟩
    rcases h5 with ⟨a, b, c, d⟩ | ⟨a, b, ⟨M, c1, c2⟩, d⟩ | ⟨M, a, b, c, d⟩
    · exact .inl ⟨a, b, c, d.trans (Keeps.drawn hd _)⟩
    · exact .inr (.inl ⟨a, b, ⟨M, c1, c2.drawn hd⟩, d.trans (Keeps.drawn hd _)⟩)
    · exact .inr (.inr ⟨M, a, b, c.drawn hd, d.trans (Keeps.drawn hd _)⟩)

theorem zzAddKey_any (base : Nat) (obj : Bool) (f : Nat) (it : Int) (sm : Option Nat) (aK : Option Addr) (n cK : Nat) (bad : Nat → Prop) (K S : List (List Int)) (ak : Option Addr) (mk ck : Nat) (Z : List Int) (w : World)
    (hK : OwnList w base (.slice aK n cK) bad K) (hKn : K.length = n) (hB : base ≤ w.heap.size) (hf : f ≤ n) (hn : n ≤ 1000000) (hmk : mk ≤ maxLen) (hZ : TextOff w bad ak mk Z)
    (hsm : sm = none ∨ ∃ M, sm = some M ∧ SetIs w M S ∧ (∀ z ∈ S, Bytes z) ∧ S.length ≤ 1000000 ∧ ∀ z, z ∈ S ↔ z ∈ K.drop f) :
    Calls Try.prog 19 #[.bool obj, .int .i64 f, .int .i64 it, .map sm, .slice aK n cK, .slice ak mk ck] w fun e w' => ∃ out added sm', e = .returned (.tuple #[out, .bool added, .bool obj, .int .i64 f, .int .i64 it, .map sm']) ∧ AddPost base f n sm (.slice aK n cK) bad K S Z w w' out added sm' := by
  refine zz_of obj f it sm _ _ w (fun out added sm' w' => AddPost base f n sm (.slice aK n cK) bad K S Z w w' out added sm') ?_ (fun _ _ _ _ _ h hd => h.drawn hd)
  have hbx := box_new w obj f it sm
  have kA := Keeps.alloc w (.cells #[.bool obj, .int .i64 f, .int .i64 it, .map sm] 49) (fun _ => False)
  have hsz : (w.alloc (.cells #[.bool obj, .int .i64 f, .int .i64 it, .map sm] 49)).heap.size = w.heap.size + 1 := Go.Deep.nblk_alloc _ _
  have hvlt : ∀ b, (Value.slice aK n cK).ownBlock = some b → b < w.heap.size := by
    intro b hb
    obtain ⟨xs, hr, _⟩ := hK
    exact (hr.lt b hb).2
  -- in the new world, the box among the bad blocks
  have K0 : OwnList (w.alloc (.cells #[.bool obj, .int .i64 f, .int .i64 it, .map sm] 49)) base (.slice aK n cK) (fun k => bad k ∨ w.heap.size ≤ k) K := by
    have h1 := hK.change (bad' := fun k => bad k ∨ w.heap.size ≤ k) (fun k h => .inl h) (fun a n Z h => h.andNew)
    exact h1.keeps kA (fun _ _ h => h.elim) (fun _ _ h => h)
  have Z0 : TextOff (w.alloc (.cells #[.bool obj, .int .i64 f, .int .i64 it, .map sm] 49)) (fun k => bad k ∨ w.heap.size ≤ k) ak mk Z := hZ.andNew.keeps kA (fun _ _ h => h.elim)
  have hbp : (fun k => bad k ∨ w.heap.size ≤ k) w.heap.size := .inr (Nat.le_refl _)
  have hpK : (Value.slice aK n cK).ownBlock ≠ some w.heap.size := fun h => by have := hvlt _ h; omega
  have kA2 : ∀ bad'', Keeps w (w.alloc (.cells #[.bool obj, .int .i64 f, .int .i64 it, .map sm] 49)) bad'' := fun _ => Keeps.alloc _ _ _
  generalize w.alloc (.cells #[.bool obj, .int .i64 f, .int .i64 it, .map sm] 49) = w0 at *
  obtain ⟨aF, cF, eF, hnc, hL⟩ := K0.form
  rw [hKn] at eF hnc hL
  cases eF
  rcases hsm with rfl | ⟨M, rfl, hS, hSb, hSl, hiff⟩
  · by_cases hmem : Z ∈ K.drop f
    · refine (addKey_nil_dup w.heap.size obj f it aK n cK K ak mk ck Z w0 hbx hL hnc hf hn Z0.1 hmem).mono ?_
      rintro e w' ⟨rfl, rfl⟩
      exact ⟨_, _, none, rfl, hbx, .inl ⟨hmem, rfl, rfl, rfl, kA2 _⟩⟩
    · by_cases h16 : n - f < 16
      · refine (addKey_nil_few base w.heap.size obj f it aK n cK _ K ak mk ck Z w0 hbx K0 hKn (by omega) hf hn hmk Z0 hmem h16).mono ?_
        rintro e w' ⟨v', rfl, h1, h2, h3⟩
        refine ⟨_, _, none, rfl, hbx.keeps h2 (fun h => hpK h.symm), .inr ⟨hmem, rfl, ⟨_, h1, ?_⟩, fun a c e hc => ((kA2 _).trans (h3 (by cases e; exact hc))).mono (fun _ _ h => h.elim), .inl ⟨rfl, h16, rfl, (kA2 _).trans h2⟩⟩⟩
        intro k hk h
        rcases h with (h | h) | h
        · exact .inl h
        · omega
        · omega
      · refine (addKey_nil_many base w.heap.size obj f it aK n cK _ K ak mk ck Z w0 hbx K0 hKn (by omega) hbp hpK hf hn hmk Z0 hmem h16).mono ?_
        rintro e w' ⟨v', B1, M, rfl, hB1, hM, h1, h2, h3, h4, h5⟩
        have h5' : ∀ a c, Value.slice aK n cK = .slice a n c → c < n + 1 → Keeps w w' (fun k => some k = none) := by
          intro a c e hc
          have h5' := h5 (by cases e; exact hc)
          refine ⟨h5'.os.trans (kA2 (fun _ => False)).os, h5'.tape.trans (kA2 (fun _ => False)).tape, h5'.output.trans (kA2 (fun _ => False)).output, Nat.le_trans (kA2 (fun _ => False)).size h5'.size, fun k hk _ => ?_⟩
          rw [h5'.block k (by omega) (fun h => by omega)]
          exact (kA2 (fun _ => False)).block k hk (fun h => h)
        refine ⟨_, _, some M, rfl, h3, .inr ⟨hmem, rfl, ⟨_, h1, ?_⟩, h5', .inr (.inl ⟨rfl, h16, ⟨M, rfl, h2⟩, ?_⟩)⟩⟩
        · intro k hk h
          rcases h with (h | h) | h
          · exact .inl h
          · omega
          · omega
        · refine ⟨h4.os.trans (kA2 (fun _ => False)).os, h4.tape.trans (kA2 (fun _ => False)).tape, h4.output.trans (kA2 (fun _ => False)).output, Nat.le_trans (kA2 (fun _ => False)).size h4.size, fun k hk hn => ?_⟩
          rw [h4.block k (by omega) (fun h => by rcases h with h | h; exact hn h; omega)]
          exact (kA2 (fun _ => False)).block k hk (fun h => h)
  · have hMw := hS.lt
    have hS0 : SetIs w0 M S := hS.of_block ((kA2 (fun _ => False)).block M hMw (fun h => h))
    by_cases hmem : Z ∈ K.drop f
    · refine (addKey_set_dup w.heap.size M obj f it aK n cK S ak mk ck Z w0 hbx hS0 hSb hn hmk Z0.1 ((hiff Z).2 hmem)).mono ?_
      rintro e w' ⟨rfl, hd⟩
      exact ⟨_, _, some M, rfl, hbx.keeps (Keeps.drawn hd (fun _ => False)) (fun h => h), .inl ⟨hmem, rfl, rfl, rfl, (kA2 _).trans (Keeps.drawn hd _)⟩⟩
    · have K1 := K0.change (bad' := fun k => (bad k ∨ w.heap.size ≤ k) ∨ k = M) (fun k h => .inl h) (fun a n Z h => h.andMap hS0)
      have Z1 := Z0.andMap hS0
      refine (addKey_set_new base w.heap.size M obj f it aK n cK _ K S ak mk ck Z w0 hbx K1 hKn (by omega) (.inr rfl) (own_ne_map K0 hS0) hS0 hSb hSl hn hmk Z1 (fun h => hmem ((hiff Z).1 h))).mono ?_
      rintro e w' ⟨v', B1, rfl, hB1, h1, h2, h3, h4⟩
      have hbx' : BoxAt w' w.heap.size obj f it (some M) := hbx.keeps h3 (fun h => by rcases h with h | h; exact hpK h.symm; omega)
      refine ⟨_, _, some M, rfl, hbx', .inr ⟨hmem, rfl, ⟨_, h1, ?_⟩, fun a c e hc => ((kA2 _).trans (h4 (by cases e; exact hc))).mono (fun k _ h => by rw [h]), .inr (.inr ⟨M, rfl, rfl, h2, (kA2 _).trans h3⟩)⟩⟩
      intro k hk h
      rcases h with ((h | h) | h) | h
      · exact .inl h
      · omega
      · exact .inr (by rw [h])
      · omega
end Go.Proofs.Qxb6603095a.Wl
