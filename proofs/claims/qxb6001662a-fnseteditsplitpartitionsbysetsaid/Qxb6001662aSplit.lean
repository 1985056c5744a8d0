import Derived.Test.Qxb6001662aGrp
import Derived.Test.Qxb6001662aSplitPl
import Derived.Deep.CutRange
import Derived.Deep.CutBlock
namespace Go.Proofs.Qxb6001662a.Wl
open Go.RowKit Go.Maps Go.WideMaps
open Go.Proofs.Qxb6001662a.Bs
set_option linter.unusedVariables false

theorem make81 (w : World) : (Instr.makeMap 81 none).run Try.prog w = .ok (.map (some w.heap.size)) (w.alloc (.map #[] 0)) := by rfl
theorem info30 : (Try.prog.info? 30).map (fun i => (i.zero, i.size, i.bytes)) = some (some (.slice none 0 0), 1, 24) := by kernel_rfl

theorem grown2_cell {w w1 w2 : World} {row : Option Nat} {g k : Nat} {v : Value} (hg1 : w.grownBy w1 none) (hg2 : w1.grownBy w2 row) (hne : row ≠ some g) (hc : w.cell? ⟨g, k, none⟩ = some v) : w2.cell? ⟨g, k, none⟩ = some v :=
  hg2.cell (hg1.cell hc (by simp)) (fun e => hne e.symm)
theorem grown2_frozen {w w1 w2 : World} {row : Option Nat} {g k : Nat} (hg1 : w.grownBy w1 none) (hg2 : w1.grownBy w2 row) (hne : row ≠ some g) (hl : g < w.heap.size) (hf : w.frozen? ⟨g, k, none⟩ = false) : w2.frozen? ⟨g, k, none⟩ = false := by
  rw [World.frozen?_of_block (w := w1) (hg2.block g (Nat.lt_of_lt_of_le hl hg1.size) (fun e => hne e.symm)), World.frozen?_of_block (w := w) (hg1.block g hl (by simp))]
  exact hf
theorem grown2_below {w w1 w2 : World} {B : Nat} {row : Option Nat} (hB : B ≤ w.heap.size) (hg1 : w.grownBy w1 none) (hg2 : w1.grownBy w2 row) (hrow : ∀ b, row = some b → B ≤ b) : Below B w w2 :=
  ⟨hg2.os.trans hg1.os, hg2.tape.trans hg1.tape, hg2.output.trans hg1.output, Nat.le_trans hg1.size hg2.size,
    fun b hb => (hg2.block b (Nat.lt_of_lt_of_le (Nat.lt_of_lt_of_le hb hB) hg1.size) (fun e => by have := hrow b e.symm; omega)).trans (hg1.block b (Nat.lt_of_lt_of_le hb hB) (by simp))⟩

/-- the state behind i commands -/
def S1 (w wr : World) (aS : Option Addr) (kn cS : Nat) (R : List (List ByteArray)) (i : Nat) : Prop :=
  ∃ kf xs f, Grp w wr w.heap.size 30 (.slice aS kn cS) w.heap.size kn xs (fun j => ofSet (R.take i) (kf j)) ∧ IdxMap wr w.heap.size kn f ∧ (∀ x j, f x = some j ↔ j < kn ∧ kf j = x) ∧ Ks R i kn kf ∧ Below w.heap.size w wr

theorem S1.start (w : World) (R : List (List ByteArray)) : S1 w (w.alloc (.map #[] 0)) none 0 0 R 0 :=
  ⟨fun _ => ByteArray.empty, [], fun _ => none, Grp.nil _ _ _ _ _ _, IdxMap.made w, fun x j => by simp, Ks.zero R _, (Below.refl _ _).alloc (Nat.le_refl _) _⟩

/-- command i goes to group k -/
theorem S1.add {w wr w1 w2 : World} {g kn cap k : Nat} {R : List (List ByteArray)} {i : Nat} {kf : Nat → ByteArray} {xs ys : List Value} {f : ByteArray → Option Nat} {h v' hd : Value}
    (hG : Grp w wr w.heap.size 30 (.slice (some ⟨g, 0, none⟩) kn cap) w.heap.size kn xs (fun j => ofSet (R.take i) (kf j))) (hM : IdxMap wr w.heap.size kn f) (hf : ∀ x j, f x = some j ↔ j < kn ∧ kf j = x) (hK : Ks R (i + 1) kn kf) (hBl : Below w.heap.size w wr)
    (hi : i < R.length) (hk : k < kn) (ek : kf k = nm (R[i]?.getD [])) (hx : xs[k]? = some h) (hg1 : wr.grownBy w1 none) (hg2 : w1.grownBy w2 h.ownBlock)
    (hown : w2.ownsRow w.heap.size 32 1 v' ((ofSet (R.take i) (kf k)).length + 1) (ys ++ [hd])) (hys : HdL w ys (ofSet (R.take i) (kf k))) (hhd : HdL w [hd] [R[i]?.getD []]) (hloc : v'.ownBlock = h.ownBlock ∨ v'.ownBlock = some w1.heap.size) :
    S1 w (w2.setCell ⟨g, k, none⟩ v') (some ⟨g, 0, none⟩) kn cap R (i + 1) := by
  have hgl := (hG.row.lt g rfl)
  have hMl := hM.lt
  have hhB : ∀ b, h.ownBlock = some b → w.heap.size ≤ b := fun b e => ((hG.each k h hx).lt e).1
  refine ⟨kf, xs.set k v', f, ?_, ?_, hf, hK, ?_⟩
  · refine (hG.put hMl hx hg1 hg2 (g' := ofSet (R.take i) (kf k) ++ [R[i]?.getD []]) (by rw [List.length_append]; exact hown) (hys.append hhd) hloc).gs_congr ?_
    intro j hj
    by_cases e : j = k
    · rw [if_pos e, e, ofSet_own hi ek]
    · rw [if_neg e]
      exact (ofSet_other hi (fun e' => e (hK.inj j k hj hk (e'.trans ek.symm)))).symm
  · refine hM.of_block ?_
    rw [Go.Deep.blk_setCell_other _ _ _ _ (fun e => hG.off (by rw [e]; rfl))]
    exact (hg2.block _ (Nat.lt_of_lt_of_le hMl hg1.size) (fun e => hG.map k h _ hx e.symm rfl)).trans (hg1.block _ hMl (by simp))
  · exact hBl.trans ((grown2_below hBl.size hg1 hg2 hhB).setCell (by exact hgl.1) _)

/-- a new set: what stands behind the store into the map and the append of nil -/
theorem S1.mid {w wr wa w1 wb : World} {aS : Option Addr} {kn cS : Nat} {R : List (List ByteArray)} {i : Nat} {kf : Nat → ByteArray} {xs : List Value} {f : ByteArray → Option Nat} {v' : Value}
    (hG : Grp w wr w.heap.size 30 (.slice aS kn cS) w.heap.size kn xs (fun j => ofSet (R.take i) (kf j))) (hM : IdxMap wr w.heap.size kn f) (hf : ∀ x j, f x = some j ↔ j < kn ∧ kf j = x) (hK : Ks R i kn kf) (hBl : Below w.heap.size w wr)
    (hi : i < R.length) (hn : f (nm (R[i]?.getD [])) = none) (hMa : IdxMap wa w.heap.size (kn + 1) (fun y => if y = nm (R[i]?.getD []) then some kn else f y)) (hga : wr.grownBy wa (some w.heap.size))
    (hg1 : wa.grownBy w1 none) (hg2 : w1.grownBy wb (Value.slice aS kn cS).ownBlock) (hown : wb.ownsRow w.heap.size 30 1 v' (kn + 1) (xs ++ [.slice none 0 0])) (hloc : v'.ownBlock = (Value.slice aS kn cS).ownBlock ∨ v'.ownBlock = some w1.heap.size) :
    ∃ kf', Grp w wb w.heap.size 30 v' w.heap.size (kn + 1) (xs ++ [.slice none 0 0]) (fun j => ofSet (R.take i) (kf' j)) ∧ IdxMap wb w.heap.size (kn + 1) (fun y => if y = nm (R[i]?.getD []) then some kn else f y) ∧ (∀ x j, (if x = nm (R[i]?.getD []) then some kn else f x) = some j ↔ j < kn + 1 ∧ kf' j = x) ∧ Ks R (i + 1) (kn + 1) kf' ∧ Below w.heap.size w wb ∧ kf' kn = nm (R[i]?.getD []) ∧ ofSet (R.take i) (kf' kn) = [] := by
  have hnew : ∀ j, j < kn → kf j ≠ nm (R[i]?.getD []) := by
    intro j hj e
    have := (hf _ j).2 ⟨hj, e⟩
    rw [hn] at this
    cases this
  have hMl := hM.lt
  have hGa : Grp w wa w.heap.size 30 (.slice aS kn cS) w.heap.size kn xs (fun j => ofSet (R.take i) (kf j)) := hG.keep (fun b hb hl hne => hga.block b hl (fun e => hne (Option.some.inj e)))
  have hMal := hMa.lt
  have hfr := hK.fresh hnew
  refine ⟨fun j => if j = kn then nm (R[i]?.getD []) else kf j, ?_, ?_, ?_, (hK.new hi hnew).1, ?_, by simp, ?_⟩
  · refine (hGa.push hMal hg1 hg2 hown hloc).gs_congr ?_
    intro j hj
    by_cases e : j = kn
    · simp only [if_pos e]; exact hfr.symm
    · simp only [if_neg e]
  · refine hMa.of_block ?_
    exact (hg2.block _ (Nat.lt_of_lt_of_le hMal hg1.size) (fun e => hG.off e.symm)).trans (hg1.block _ hMal (by simp))
  · intro x j
    by_cases e : x = nm (R[i]?.getD [])
    · rw [if_pos e]
      constructor
      · intro h
        have := Option.some.inj h
        subst this
        exact ⟨by omega, by simp [e]⟩
      · rintro ⟨hj, h⟩
        by_cases ej : j = kn
        · rw [ej]
        · simp only [if_neg ej] at h
          exact absurd (h.trans e) (hnew j (by omega))
    · rw [if_neg e, hf]
      constructor
      · rintro ⟨hj, h⟩
        exact ⟨by omega, by simp only [if_neg (show j ≠ kn by omega)]; exact h⟩
      · rintro ⟨hj, h⟩
        by_cases ej : j = kn
        · simp only [if_pos ej] at h
          exact absurd h.symm e
        · simp only [if_neg ej] at h
          exact ⟨by omega, h⟩
  · have h1 : Below w.heap.size wr wa := grown_below hga hBl.size (Nat.le_refl _)
    exact hBl.trans (h1.trans (grown2_below (Nat.le_trans hBl.size hga.size) hg1 hg2 (fun b e => (hG.row.lt b e).1)))
  · simp only [if_pos]; exact hfr

/-! ### the parts, in memory -/
theorem info51 : (Try.prog.info? 51).map (fun i => (i.zero, i.size, i.bytes)) = some (some (.agg #[.slice none 0 0]), 1, 24) := by kernel_rfl
def Want (nn : Int) (kn q : Nat) : Prop := (q : Int) = min (max nn 1) (kn : Int)
def S2 (w w1 wr : World) (q kn : Nat) (R : List (List ByteArray)) (kf : Nat → ByteArray) (g : Nat) : Prop :=
  ∃ xs P, Grp w wr w1.heap.size 51 (.slice (some ⟨w1.heap.size, 0, none⟩) q q) w.heap.size q xs P ∧ Pd R q g kn kf P ∧ Below w1.heap.size w1 wr
theorem make_parts (w wr : World) (q kn : Nat) (R : List (List ByteArray)) (kf : Nat → ByteArray) (hq : q ≤ 1048576) (hM : w.heap.size < wr.heap.size) :
    ∃ wx, (Instr.makeSlice 46 (.int .i64 (q : Int)) (.int .i64 (q : Int))).run Try.prog wr = .ok (.slice (some ⟨wr.heap.size, 0, none⟩) q q) wx ∧ S2 w wr wx q kn R kf 0 := by
  obtain ⟨i51, hi51, z51, s51, b51⟩ := info_parts info51
  obtain ⟨wx, hrun, hown, hg⟩ := run_make_full (P := Try.prog) wr wr.heap.size 46 51 i51 _ 1 Try.underlying46 hi51 z51 s51 .i64 .i64 q (by rw [b51]; omega) (by unfold maxLen; omega) (Nat.le_refl _)
  refine ⟨wx, hrun, (madeCells (Value.agg #[.slice none 0 0]).cells (q * 1)).toList, fun _ => [], ?_, Pd.zero R q kn kf, ⟨hg.os, hg.tape, hg.output, hg.size, fun b hb => hg.block b hb (by simp)⟩⟩
  have hx : ∀ (j : Nat) (h : Value), (madeCells (Value.agg #[.slice none 0 0]).cells (q * 1)).toList[j]? = some h → h = .slice none 0 0 := by
    intro j h he
    rw [show (Value.agg #[.slice none 0 0]).cells = #[.slice none 0 0] from rfl, toList_madeCells_one] at he
    have := (List.getElem?_eq_some_iff.1 he)
    obtain ⟨hl, e⟩ := this
    rw [List.getElem_replicate] at e
    exact e.symm
  refine ⟨hown, ?_, ?_, ?_, ?_, ?_⟩
  · intro j h he
    rw [hx j h he]; exact OwnG.nil _ _ _
  · intro j h b he eb
    rw [hx j h he] at eb
    simp [Value.ownBlock] at eb
  · intro j h b he eb
    rw [hx j h he] at eb
    simp [Value.ownBlock] at eb
  · intro j h j' h' b he he' eb
    rw [hx j h he] at eb
    simp [Value.ownBlock] at eb
  · simp [Value.ownBlock]; omega
theorem grown_refl (w : World) (row : Option Nat) : w.grownBy w row := ⟨rfl, rfl, rfl, Nat.le_refl _, fun _ _ _ => rfl⟩
theorem Grp.drawn {w0 w w' : World} {B : Nat} {e : TypeId} {v : Value} {M kn : Nat} {xs : List Value} {gs : Nat → List (List ByteArray)} (h : Grp w0 w B e v M kn xs gs) (hd : Drawn w w') : Grp w0 w' B e v M kn xs gs :=
  h.keep (fun b _ hl _ => (hd.below w.heap.size).block b hl)
/-- group g has gone to part m -/
theorem S2.step {w w1 wr w2 : World} {q kn g m : Nat} {R : List (List ByteArray)} {kf : Nat → ByteArray} {xs ys zs : List Value} {P : Nat → List (List ByteArray)} {h v' : Value}
    (hG : Grp w wr w1.heap.size 51 (.slice (some ⟨w1.heap.size, 0, none⟩) q q) w.heap.size q xs P) (hP : Pd R q g kn kf P) (hBl : Below w1.heap.size w1 wr) (hM : w.heap.size < w1.heap.size) (hK : Ks R R.length kn kf) (hg : g < kn) (hm : Least P q m)
    (hx : xs[m]? = some h) (hg2 : wr.grownBy w2 h.ownBlock) (hown : w2.ownsRow w1.heap.size 32 1 v' ((P m).length + (ofSet R (kf g)).length) (ys ++ zs)) (hys : HdL w ys (P m)) (hzs : HdL w zs (ofSet R (kf g))) (hloc : v'.ownBlock = h.ownBlock ∨ v'.ownBlock = some wr.heap.size) :
    S2 w w1 (w2.setCell ⟨w1.heap.size, m, none⟩ v') q kn R kf (g + 1) := by
  refine ⟨xs.set m v', fun p => if p = m then P m ++ ofSet R (kf g) else P p, ?_, hP.step hK hg hm (hK.nonempty hg), ?_⟩
  · exact hG.put (Nat.lt_of_lt_of_le hM hBl.size) hx (grown_refl _ _) hg2 (g' := P m ++ ofSet R (kf g)) (by rw [List.length_append]; exact hown) (hys.append hzs) hloc
  · exact hBl.trans ((grown2_below hBl.size (grown_refl _ _) hg2 (fun b e => ((hG.each m h hx).lt e).1)).setCell (by exact Nat.le_refl _) _)
/-- what Split hands back -/
def SplitDone (w w' : World) (R : List (List ByteArray)) (nn : Int) (e : Ending) : Prop :=
  ∃ (bP q kn : Nat) (kf : Nat → ByteArray) (P : Nat → List (List ByteArray)), e = .returned (.slice (some ⟨bP, 0, none⟩) q q) ∧ Ks R R.length kn kf ∧ Pd R q kn kn kf P ∧ Want nn kn q ∧ bP < w'.heap.size ∧ Below w.heap.size w w' ∧
    ∀ p, p < q → ∃ ap cp, w'.cell? ⟨bP, p, none⟩ = some (.slice ap (P p).length cp) ∧ MatIn w' w'.heap.size ap (P p).length (P p)
theorem S2.done {w w1 wr : World} {q kn : Nat} {R : List (List ByteArray)} {kf : Nat → ByteArray} {nn : Int} (h : S2 w w1 wr q kn R kf kn) (hK : Ks R R.length kn kf) (hq : Want nn kn q) (hB1 : Below w.heap.size w w1) (hl : w1.heap.size < wr.heap.size) :
    SplitDone w wr R nn (.returned (.slice (some ⟨w1.heap.size, 0, none⟩) q q)) := by
  obtain ⟨xs, P, hG, hP, hBl⟩ := h
  have hB : Below w.heap.size w wr := hB1.trans (hBl.mono hB1.size)
  refine ⟨w1.heap.size, q, kn, kf, P, rfl, hK, hP, hq, hl, hB, fun p hp => ?_⟩
  obtain ⟨x, hx⟩ : ∃ x, xs[p]? = some x := ⟨_, List.getElem?_eq_getElem (by rw [hG.length]; exact hp)⟩
  obtain ⟨ap, cp, rfl⟩ := (hG.each p x hx).form
  exact ⟨ap, cp, (hG.row.cellAt p (by omega)).trans hx, ((hG.each p _ hx).mat hB).2⟩

set_option maxRecDepth 100000 in
set_option maxHeartbeats 4000000 in
theorem split_any (pe : Nat) (a : Option Addr) (n c : Nat) (R : List (List ByteArray)) (nn : Int) (w : World) (hn : n ≤ 512) (hp : w.cell? ⟨pe, 0, none⟩ = some (.slice a n c)) (hR : MatIn w w.heap.size a n R) (h2 : Two R) :
    Calls Try.prog 38 #[.pointer (some ⟨pe, 0, none⟩), .int .i64 nn] w fun e w' => SplitDone w w' R nn e := by
  have HR := hidIt hR
  have H2 := hidIt h2
  clear hR h2
  obtain ⟨i30, hi30, z30, s30, b30⟩ := info_parts info30
  obtain ⟨i32, hi32, z32, s32, b32⟩ := info_parts info32
  have m81 := make81
  have hpl : pe < w.heap.size := World.block_lt_of_cell? _ _ hp
  have hp1 : (w.alloc (.map #[] 0)).cell? ⟨pe, 0, none⟩ = some (.slice a n c) := by
    rw [((Below.refl w.heap.size w).alloc (Nat.le_refl _) (.map #[] 0)).cell (by exact hpl)]; exact hp
  have HS0 := hidIt (S1.start w R)
  clear hp
  go_enter Try.func38, Try.ntmps38
  go_wp2
  generalize w.alloc (.map #[] 0) = w1 at *
  clear m81 hp1
  go_loopw [5, 8, 9, 10, 22] (fun s5 s8 s9 s10 s22 wr => ∃ i kn : Nat, ∃ aS cS, i ≤ n ∧ s22 = .int .i64 i ∧ s5 = .slice aS kn cS ∧ Hid (S1 w wr aS kn cS R i)) (fun _ _ _ _ s22 _ => n - (intOf s22).toNat)
  case atStart => exact ⟨0, 0, none, 0, Nat.zero_le _, rfl, rfl, HS0⟩
  case round =>
    obtain ⟨i, kn, aS, cS, hi, rfl, rfl, HS⟩ := hrel
    clear HS0
    by_cases hlt : i < n
    · obtain ⟨b, off, rfl, hbl, _⟩ := HR.out.2 (by omega)
      obtain ⟨b1, o1, n1, c1, g1, l1, m1, f1, t1⟩ := HR.out.row H2.out i hlt
      obtain ⟨kf, xs, f, hG, hM, hf, hK, hBl⟩ := HS.out
      have hRl : R.length = n := HR.out.1
      have g1' := (hBl.cell (by exact hbl)).trans g1
      have f1' := (hBl.cell (by exact World.block_lt_of_cell? _ _ f1)).trans f1
      have hxs : (nm (R[i]?.getD [])).size ≤ maxLen := t1.2.1 1
      have hlook := hM.look _ hxs
      have hin : (i : Int) < (n : Int) := by omega
      have hkc := kc_le R i
      rw [← hK.cnt] at hkc
      have Hhd := hidIt (HdL.one (c := c1) m1 t1)
      have m1' := m1
      unfold maxLen at m1'
      clear g1 f1 m1 t1
      generalize hx0 : nm (R[i]?.getD []) = x at *
      have Hx0 := hidIt hx0
      clear hx0
      cases hfx : f x with
      | some k =>
        obtain ⟨hk, ek⟩ := (hf _ k).1 hfx
        rw [hfx] at hlook
        simp only [Option.getD_some, Option.isSome_some] at hlook
        obtain ⟨g, cap, e, hgB, hgl⟩ := hG.row.form (by omega)
        cases e
        obtain ⟨h, hx⟩ : ∃ h, xs[k]? = some h := ⟨_, List.getElem?_eq_getElem (by rw [hG.length]; exact hk)⟩
        obtain ⟨ah, ch, rfl⟩ := (hG.each k h hx).form
        obtain ⟨ys, hyo, hyl⟩ := hG.each k _ hx
        have gk : wr.cell? ⟨g, k, none⟩ = some (.slice ah (ofSet (R.take i) (kf k)).length ch) := (hG.row.cellAt k (by omega)).trans hx
        have gf : wr.frozen? ⟨g, k, none⟩ = false := hG.row.frozenAt k
        have hap : (Value.slice ah (ofSet (R.take i) (kf k)).length ch).ownBlock ≠ some g := fun e1 => hG.apart k _ g hx e1 rfl
        have hln := ofSet_len (R.take i) (kf k)
        rw [List.length_take] at hln
        have hBwr := hBl.size
        have HF := hidIt hf
        have HK := hidIt hK
        have HBl := hidIt hBl
        have Hek := hidIt ek
        have Hyl := hidIt hyl
        have HG := hidIt hG
        have HMm := hidIt hM
        have Hhx := hidIt hx
        clear hf hK hBl ek hyl hfx hG hM hx
        generalize hL : (ofSet (R.take i) (kf k)).length = L at *
        have HL := hidIt hL
        clear hL
        go_wp2_with (at_builtin; refine wpList_append_own_at _ rfl (.tmp 51) (.tmp 53) 30 rfl w.heap.size 32 i32 (.slice none 0 0) 1 24 Try.underlying30 hi32 z32 s32 b32 rfl (by decide) _ _ ys rfl (hyo.alloc _) ⟨wr.heap.size, 0, none⟩ 1 1 [_] rfl rfl (cell_one_new _ _ _) (by intro u hu; simp at hu; subst hu; rfl) (by unfold maxLen; omega) (by omega) (by simp; omega) ?_; intro v2 w2 hown2 hgrow2 hnil2 hloc2; obtain ⟨g2, cap2, rfl, hg2B, hg2l⟩ := hown2.form (by omega); have Hloc2 := hidIt hloc2; have Hown2 := hidIt hown2; have gk2 := grown2_cell (World.grownBy_alloc _ _ _) hgrow2 hap gk; have gf2 := grown2_frozen (World.grownBy_alloc _ _ _) hgrow2 hap hgl gf; clear gk gf hnil2 hloc2 hown2)
        have HS' : Hid (S1 w _ _ _ _ R (i + 1)) := S1.add HG.out HMm.out HF.out (HK.out.old (by omega) hk (Hek.out.trans Hx0.out.symm)).1 HBl.out (by omega) hk (Hek.out.trans Hx0.out.symm) Hhx.out (World.grownBy_alloc _ _ _) hgrow2 (by rw [HL.out]; exact Hown2.out) Hyl.out Hhd.out Hloc2.out
        go_roundw
        case rel => exact ⟨i + 1, kn, _, _, by omega, by go_num, rfl, HS'⟩
        case measure => simp [intOf]; omega
      | none =>
        rw [hfx] at hlook
        simp only [Option.getD_none, Option.isSome_none] at hlook
        obtain ⟨wa, hput, hMa, hga⟩ := hM.put x kn hxs (by unfold maxLen; omega) (by omega)
        have hra := (hG.keep (w' := wa) (fun b hb hl hne => hga.block b hl (fun e => hne (Option.some.inj e)))).row
        have hBwr := hBl.size
        have hBwa := hga.size
        have hgo := hidIt hga
        have HMa := hidIt hMa
        have HF := hidIt hf
        have HK := hidIt hK
        have HBl := hidIt hBl
        have HG := hidIt hG
        have HMm := hidIt hM
        have Hfx := hidIt hfx
        have hxl : xs.length = kn := hG.length
        clear hf hK hBl hG hM hfx hMa hga
        go_wp2_with (first
          | (at_builtin; refine wpList_append_own_at _ rfl (.tmp 43) (.tmp 44) 80 rfl w.heap.size 30 i30 (.slice none 0 0) 1 24 Try.underlying80 hi30 z30 s30 b30 rfl (by decide) _ kn xs rfl (hra.alloc _) ⟨wa.heap.size, 0, none⟩ 1 1 [_] rfl rfl (cell_one_new _ _ _) (by intro u hu; simp at hu; subst hu; rfl) (by unfold maxLen; omega) (by omega) (by simp; omega) ?_; intro v1 wb hown1 hgrow1 hnil1 hloc1; obtain ⟨gS, capS, rfl, hgSB, hgSl⟩ := hown1.form (by omega); obtain ⟨kf', hG', hM', hf', hK', hBl', ek', hz'⟩ := S1.mid HG.out HMm.out HF.out HK.out HBl.out (by omega) (by rw [Hx0.out]; exact Hfx.out) (by rw [Hx0.out]; exact HMa.out) hgo.out (World.grownBy_alloc _ _ _) hgrow1 hown1 hloc1; have gk : wb.cell? ⟨gS, kn, none⟩ = some (.slice none 0 0) := (hG'.row.cellAt kn (by omega)).trans (by rw [List.getElem?_append_right (by omega), hxl, Nat.sub_self]; rfl); have gf : wb.frozen? ⟨gS, kn, none⟩ = false := hG'.row.frozenAt kn; have HG' := hidIt hG'; have HM' := hidIt hM'; have Hf' := hidIt hf'; have HK' := hidIt hK'; have hBwb := hBl'.size; have HBl' := hidIt hBl'; have Hek' := hidIt ek'; have Hz' := hidIt hz'; clear hnil1 hloc1 hown1 hgrow1 hG' hM' hf' hK' hBl' ek' hz' hra hput)
          | (at_builtin; refine wpList_append_own_at _ rfl (.tmp 51) (.tmp 53) 30 rfl w.heap.size 32 i32 (.slice none 0 0) 1 24 Try.underlying30 hi32 z32 s32 b32 rfl (by decide) (.slice none 0 0) 0 [] rfl (World.ownsRow_nil _ _ _ _) ⟨wb.heap.size, 0, none⟩ 1 1 [_] rfl rfl (cell_one_new _ _ _) (by intro u hu; simp at hu; subst hu; rfl) (by unfold maxLen; omega) (by omega) (by simp; omega) ?_; intro v2 w2 hown2 hgrow2 hnil2 hloc2; obtain ⟨g2, cap2, rfl, hg2B, hg2l⟩ := hown2.form (by omega); have Hloc2 := hidIt hloc2; have Hown2 := hidIt hown2; have Hgrow2 := hidIt hgrow2; have gk2 := grown2_cell (World.grownBy_alloc _ _ _) hgrow2 (by simp [Value.ownBlock]) gk; have gf2 := grown2_frozen (World.grownBy_alloc _ _ _) hgrow2 (by simp [Value.ownBlock]) hgSl gf; clear gk gf hnil2 hloc2 hown2 hgrow2))
        have HS' : Hid (S1 w _ _ _ _ R (i + 1)) := S1.add HG'.out HM'.out Hf'.out HK'.out HBl'.out (by omega) (by omega) Hek'.out (by rw [List.getElem?_append_right (by omega), hxl, Nat.sub_self]; rfl) (World.grownBy_alloc _ _ _) Hgrow2.out (by rw [Hz'.out]; exact Hown2.out) (by rw [Hz'.out]; exact HdL.nil _) Hhd.out Hloc2.out
        go_roundw
        case rel => exact ⟨i + 1, kn + 1, _, _, by omega, by go_num, rfl, HS'⟩
        case measure => simp [intOf]; omega
    · have hin : i = n := by omega
      subst hin
      obtain ⟨w5, hw5⟩ : ∃ w5, w5 = wr := ⟨_, rfl⟩
      subst hw5
      obtain ⟨kf, xs, f, hG, hM, hf, hK, hBl⟩ := HS.out
      have hRl : R.length = i := HR.out.1
      have hMl := hM.lt
      have hkc := kc_le R i
      rw [← hK.cnt] at hkc
      have hGr : Grp w w5 w.heap.size 30 (.slice aS kn cS) w.heap.size kn xs (fun j => ofSet R (kf j)) := hG.gs_congr (fun j _ => by rw [List.take_of_length_le (by omega)])
      have hKr : Ks R R.length kn kf := by rw [hRl]; exact hK
      have HG := hidIt hGr
      have HK := hidIt hKr
      have HBl := hidIt hBl
      clear hG hGr hM hf hK hKr hBl HS
      obtain ⟨q, hq⟩ : ∃ q : Nat, (q : Int) = min (max nn 1) (kn : Int) := ⟨(min (max nn 1) (kn : Int)).toNat, by omega⟩
      have HQ : Hid (Want nn kn q) := hq
      have hqk : q ≤ kn := by omega
      obtain ⟨wx, hmk, hS2⟩ := make_parts w w5 q kn R kf (by omega) hMl
      have HS2 := hidIt hS2
      clear hS2
      go_upto_region 13 with fail
      go_cut [11] from 57 to 62 (fun v wc => v = .slice (some ⟨w5.heap.size, 0, none⟩) q q ∧ wc = wx)
      case first =>
        by_cases h1 : nn < 1
        · by_cases h2 : kn < 1
          · obtain rfl : q = kn := by omega
            clear hq
            go_wp2
            go_meet
            case rel => exact ⟨rfl, rfl⟩
          · obtain rfl : q = 1 := by omega
            have hmk' : (Instr.makeSlice 46 (.int .i64 1) (.int .i64 1)).run Try.prog w5 = _ := hmk
            clear hmk hq
            go_wp2
            go_meet
            case rel => exact ⟨rfl, rfl⟩
        · by_cases h2 : (kn : Int) < nn
          · obtain rfl : q = kn := by omega
            clear hq
            go_wp2
            go_meet
            case rel => exact ⟨rfl, rfl⟩
          · obtain rfl : nn = (q : Int) := by omega
            clear hq
            go_wp2
            go_meet
            case rel => exact ⟨rfl, rfl⟩
      case rest =>
        obtain ⟨rfl, rfl⟩ := hcut
        clear hmk hq
        go_wp2
        go_loopw [13, 14, 15, 65] (fun s13 s14 s15 s65 wr => ∃ g : Nat, g ≤ kn ∧ s65 = .int .i64 g ∧ Hid (S2 w w5 wr q kn R kf g)) (fun _ _ _ s65 _ => kn - (intOf s65).toNat)
        case atStart => exact ⟨0, Nat.zero_le _, rfl, HS2⟩
        case round =>
          obtain ⟨g, hg, rfl, HT⟩ := hrel
          clear HS2
          by_cases hlt2 : g < kn
          · obtain ⟨ps, P, hGP, hP, hBP⟩ := HT.out
            obtain ⟨gS, capS, e, hgSB, hgSl⟩ := HG.out.row.form (by omega)
            cases e
            obtain ⟨x, hx⟩ : ∃ x, xs[g]? = some x := ⟨_, List.getElem?_eq_getElem (by rw [HG.out.length]; exact hlt2)⟩
            obtain ⟨zs, hzo, hzl⟩ := HG.out.each g x hx
            have hpos : 0 < (ofSet R (kf g)).length := List.length_pos_iff.2 (HK.out.nonempty hlt2)
            obtain ⟨gb, cb, rfl, hgbB, hgbl⟩ := hzo.form hpos
            have gz : wr.cell? ⟨gS, g, none⟩ = some (.slice (some ⟨gb, 0, none⟩) (ofSet R (kf g)).length cb) := (hBP.cell (by exact hgSl)).trans ((HG.out.row.cellAt g (by omega)).trans hx)
            have hzc : ∀ (j : Nat) u, zs[j]? = some u → wr.cell? ((⟨gb, 0, none⟩ : Addr).add j) = some u := fun j u hu => (hBP.cell (by rw [show ((⟨gb, 0, none⟩ : Addr).add j).block = gb by unfold Addr.add; split <;> rfl]; exact hgbl)).trans (hzo.cells rfl j u hu)
            have hgk : (g : Int) < (kn : Int) := by omega
            have hq0 : 0 < q := by have h := HQ.out; unfold Want at h; omega
            have hle := fun p hp => hP.le HK.out (by omega) p hp
            have hLk := ofSet_len R (kf g)
            have hzn : zs.length = (ofSet R (kf g)).length := hzl.1
            obtain ⟨w6, hw6⟩ : ∃ w6, w6 = wr := ⟨_, rfl⟩
            subst hw6
            have HGP := hidIt hGP
            have HP := hidIt hP
            have HBP := hidIt hBP
            have Hzc := hidIt hzc
            have Hzl := hidIt hzl
            have Hle := hidIt hle
            clear hGP hP hBP hzc hzl HT hzo hx hle
            generalize hL : (ofSet R (kf g)).length = L at *
            have HL := hidIt hL
            clear hL
            go_wp2
            go_loopw [14, 15, 73] (fun s14 s15 s73 wr => ∃ t m : Nat, t ≤ q ∧ m < q ∧ s73 = .int .i64 t ∧ s14 = .pointer (some ⟨w5.heap.size, m, none⟩) ∧ Hid (∀ p, p < t → (P m).length ≤ (P p).length) ∧ Hid (∀ p, p < m → (P m).length < (P p).length) ∧ Drawn w6 wr) (fun _ _ s73 _ => q - (intOf s73).toNat)
            case atStart => exact ⟨0, 0, Nat.zero_le _, hq0, rfl, rfl, fun p h => absurd h (by omega), fun p h => absurd h (by omega), Drawn.refl _⟩
            case round =>
              obtain ⟨t, m, ht, hm, rfl, rfl, HA, HC, hdr⟩ := hrel
              clear gz
              obtain ⟨xm, hxm⟩ : ∃ xm, ps[m]? = some xm := ⟨_, List.getElem?_eq_getElem (by rw [HGP.out.length]; exact hm)⟩
              obtain ⟨am, cm, rfl⟩ := (HGP.out.each m xm hxm).form
              have gm : wr.cell? ⟨w5.heap.size, m, none⟩ = some (.slice am (P m).length cm) := (hdr.cell _).trans ((HGP.out.row.cellAt m (by omega)).trans hxm)
              by_cases hlt3 : t < q
              · obtain ⟨xt, hxt⟩ : ∃ xt, ps[t]? = some xt := ⟨_, List.getElem?_eq_getElem (by rw [HGP.out.length]; exact hlt3)⟩
                obtain ⟨at', ct, rfl⟩ := (HGP.out.each t xt hxt).form
                have gt : wr.cell? ⟨w5.heap.size, t, none⟩ = some (.slice at' (P t).length ct) := (hdr.cell _).trans ((HGP.out.row.cellAt t (by omega)).trans hxt)
                have htq : (t : Int) < (q : Int) := by omega
                clear hxm hxt
                by_cases hc : (P t).length < (P m).length
                · have HA' : Hid (∀ p, p < t + 1 → (P t).length ≤ (P p).length) := by
                    intro p hp
                    by_cases e : p = t
                    · rw [e]; exact Nat.le_refl _
                    · have := HA.out p (by omega); omega
                  have HC' : Hid (∀ p, p < t → (P t).length < (P p).length) := by
                    intro p hp
                    have := HA.out p hp; omega
                  have hc' : ((P t).length : Int) < ((P m).length : Int) := by omega
                  clear HA HC hc
                  generalize hlm : (P m).length = lm at gm hc'
                  generalize hlt' : (P t).length = lt at gt hc'
                  clear hlm hlt'
                  go_wp2_with fail
                  go_quiet (fail)
                  go_wp2
                  go_roundw
                  case rel => exact ⟨t + 1, t, by omega, hlt3, by go_num, rfl, HA', HC', hdr.more _⟩
                  case measure => simp [intOf]; omega
                · have HA' : Hid (∀ p, p < t + 1 → (P m).length ≤ (P p).length) := by
                    intro p hp
                    by_cases e : p = t
                    · rw [e]; omega
                    · exact HA.out p (by omega)
                  have hc' : ¬ ((P t).length : Int) < ((P m).length : Int) := by omega
                  clear HA hc
                  generalize hlm : (P m).length = lm at gm hc'
                  generalize hlt' : (P t).length = lt at gt hc'
                  clear hlm hlt'
                  go_wp2_with fail
                  go_quiet (fail)
                  go_wp2
                  go_roundw
                  case rel => exact ⟨t + 1, m, by omega, hm, by go_num, rfl, HA', HC, hdr.more _⟩
                  case measure => simp [intOf]; omega
              · have hLeast : Hid (Least P q m) := ⟨hm, fun p hp => HA.out p (by omega), HC.out⟩
                have hGd := HGP.out.drawn hdr
                obtain ⟨ys, hyo, hyl⟩ := hGd.each m _ hxm
                have hap : (Value.slice am (P m).length cm).ownBlock ≠ some w5.heap.size := fun e1 => hGd.apart m _ _ hxm e1 rfl
                have gf : wr.frozen? ⟨w5.heap.size, m, none⟩ = false := hGd.row.frozenAt m
                have hbl : w5.heap.size < wr.heap.size := (hGd.row.lt _ rfl).2
                have hlem := Hle.out m hm
                have hzc : ∀ (j : Nat) u, zs[j]? = some u → wr.cell? ((⟨gb, 0, none⟩ : Addr).add j) = some u := fun j u hu => (hdr.cell _).trans (Hzc.out j u hu)
                have Hzc' := hidIt hzc
                have HGd := hidIt hGd
                have Hyl := hidIt hyl
                have Hxm := hidIt hxm
                clear HA HC hzc hGd hyl hxm
                generalize hlm : (P m).length = lm at *
                have Hlm := hidIt hlm
                clear hlm
                go_wp2_with (at_builtin; refine wpList_append_own_at _ rfl (.tmp 96) (.tmp 97) 30 rfl w5.heap.size 32 i32 (.slice none 0 0) 1 24 Try.underlying30 hi32 z32 s32 b32 rfl (by decide) _ lm ys rfl hyo ⟨gb, 0, none⟩ L cb zs rfl (by omega) Hzc'.out Hzl.out.oneCell (by unfold maxLen; omega) (by omega) (by omega) ?_; intro v2 w2 hown2 hgrow2 hnil2 hloc2; obtain ⟨g2, cap2, rfl, hg2B, hg2l⟩ := hown2.form (by omega); have Hloc2 := hidIt hloc2; have Hown2 := hidIt hown2; have Hgrow2 := hidIt hgrow2; have gm2 := grown2_cell (grown_refl _ _) hgrow2 hap gm; have gf2 := grown2_frozen (grown_refl _ _) hgrow2 hap hbl gf; clear gm gf hnil2 hloc2 hown2 hgrow2)
                have HS' : Hid (S2 w w5 _ q kn R kf (g + 1)) := S2.step HGd.out HP.out (HBP.out.trans (hdr.below _)) hMl HK.out hlt2 hLeast.out Hxm.out Hgrow2.out (by rw [HL.out, Hlm.out]; exact Hown2.out) Hyl.out Hzl.out Hloc2.out
                go_roundw
                case rel => exact ⟨g + 1, by omega, by go_num, HS'⟩
                case measure => simp [intOf]; omega
          · have hgk : g = kn := by omega
            subst hgk
            have HF : Hid (SplitDone w wr R nn (.returned (.slice (some ⟨w5.heap.size, 0, none⟩) q q))) := by
              have hl : w5.heap.size < wr.heap.size := by
                obtain ⟨ps, P, hGP, hP, hBP⟩ := HT.out
                exact (hGP.row.lt _ rfl).2
              exact HT.out.done HK.out HQ.out HBl.out hl
            clear HT
            go_wp2
            go_ret
            exact HF.out
end Go.Proofs.Qxb6001662a.Wl
