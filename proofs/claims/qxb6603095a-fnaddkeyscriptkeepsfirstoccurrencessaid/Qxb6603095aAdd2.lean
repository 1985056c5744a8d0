import Derived.Test.Qxb6603095aAdd
import Derived.RegionTactic
namespace Go.Proofs.Qxb6603095a.Wl
open Go.RowKit Go.Maps Go.WideMaps
open Go.Proofs.Qxb6603095a.Pl Go.Proofs.Qxb6603095a.Bs
set_option linter.unusedVariables false

set_option maxHeartbeats 1000000 in
/-- the object has its map, and key is in it -/
theorem addKey_set_dup (p M : Nat) (obj : Bool) (f it : Int) (aK : Option Addr) (n cK : Nat) (S : List (List Int)) (ak : Option Addr) (mk ck : Nat) (Z : List Int) (w : World)
    (hbox : BoxAt w p obj f it (some M)) (hS : SetIs w M S) (hSb : ∀ z ∈ S, Bytes z) (hn : n ≤ 1000000) (hmk : mk ≤ maxLen) (hZ : TextIn w w.heap.size ak mk Z) (hmem : Z ∈ S) :
    Calls Try.prog 33 #[.pointer (some ⟨p, 0, none⟩), .slice aK n cK, .slice ak mk ck] w fun e w' => e = .returned (.tuple #[.slice aK n cK, .bool false]) ∧ Drawn w w' := by
  have heq := eqlMapNil
  have hconv := fun nq => conv_any (c := ck) (hZ.drawn (w' := w.drewN nq) ⟨nq, rfl⟩)
  have hlook := fun nq => (hS.drawn (w' := w.drewN nq) ⟨nq, rfl⟩).look hSb Z hZ.2.1 (by rw [hZ.1]; exact hmk)
  rw [show S.contains Z = true from List.contains_iff_mem.2 hmem] at hlook
  obtain ⟨c0, c1, c2, c3, fr⟩ := hbox
  clear hS hSb hZ hmem
  unfold maxLen at hmk
  generalize strOfNums Z = sz at *
  go_enter Try.func33, Try.ntmps33
  go_wp2
  go_quiet (fail)
  go_wp2
  go_ret2
  exact ⟨rfl, Drawn.more (Drawn.refl _) _⟩

theorem BoxAt.keeps {w w' : World} {bad : Nat → Prop} {p : Nat} {obj : Bool} {f it : Int} {sm : Option Nat} (h : BoxAt w p obj f it sm) (k : Keeps w w' bad) (hb : ¬ bad p) : BoxAt w' p obj f it sm :=
  ⟨k.cell h.c0 hb, k.cell h.c1 hb, k.cell h.c2 hb, k.cell h.c3 hb, (k.frozen (World.block_lt_of_cell? _ _ h.c3) hb).trans h.fr⟩

set_option maxRecDepth 100000 in
set_option maxHeartbeats 2000000 in
/-- .. and key is not in it -/
theorem addKey_set_new (base p M : Nat) (obj : Bool) (f it : Int) (aK : Option Addr) (n cK : Nat) (bad : Nat → Prop) (K S : List (List Int)) (ak : Option Addr) (mk ck : Nat) (Z : List Int) (w : World)
    (hbox : BoxAt w p obj f it (some M)) (hK : OwnList w base (.slice aK n cK) bad K) (hKn : K.length = n) (hB : base ≤ w.heap.size) (hbM : bad M) (hMK : (Value.slice aK n cK).ownBlock ≠ some M)
    (hS : SetIs w M S) (hSb : ∀ z ∈ S, Bytes z) (hSl : S.length ≤ 1000000) (hn : n ≤ 1000000) (hmk : mk ≤ maxLen) (hZ : TextOff w bad ak mk Z) (hmem : Z ∉ S) :
    Calls Try.prog 33 #[.pointer (some ⟨p, 0, none⟩), .slice aK n cK, .slice ak mk ck] w fun e w' => ∃ v' B1, e = .returned (.tuple #[v', .bool true]) ∧ w.heap.size ≤ B1 ∧ OwnList w' base v' (fun k => bad k ∨ B1 ≤ k) (K ++ [Z]) ∧ SetIs w' M (S ++ [Z]) ∧ Keeps w w' (fun k => some k = (Value.slice aK n cK).ownBlock ∨ k = M) ∧ (cK < n + 1 → Keeps w w' (fun k => k = M)) := by
  have heq := eqlMapNil
  subst hKn
  have hconv := fun nq => conv_any (c := ck) (hZ.1.drawn (w' := w.drewN nq) ⟨nq, rfl⟩)
  have hlook := fun nq => (hS.drawn (w' := w.drewN nq) ⟨nq, rfl⟩).look hSb Z hZ.1.2.1 (by rw [hZ.1.1]; exact hmk)
  have hput := fun nq => (hS.drawn (w' := w.drewN nq) ⟨nq, rfl⟩).put Z (by rw [hZ.1.1]; exact hmk) (by unfold maxLen; omega)
  rw [show S.contains Z = false from by rw [List.contains_eq_mem, decide_eq_false_iff_not]; exact hmem] at hlook
  obtain ⟨c0, c1, c2, c3, fr⟩ := hbox
  obtain ⟨i0, hi, hz0, hz1, hz2⟩ := info_parts info22
  have HK := hidIt hK
  have HZ := hidIt hZ
  have hSM := hS.lt
  clear hSb hmem hK hZ hS
  have hmk' := hmk
  unfold maxLen at hmk
  generalize strOfNums Z = sz at *
  have HP := hidIt hput
  clear hput
  go_enter Try.func33, Try.ntmps33
  go_wp2
  go_quiet (fail)
  go_wp2
  obtain ⟨w1, hup, hS1, hg1⟩ := HP.out (nq + 1)
  have k1 : Keeps w w1 (fun k => k = M) := (Keeps.drawn ⟨nq + 1, rfl⟩ _).trans ((Keeps.ofGrown hg1).mono (fun k _ h => by cases h; rfl))
  clear hg1 HP
  go_region
  have HK1 := hidIt (HK.out.keeps k1 (fun b _ e => e ▸ hbM) (fun b e h => hMK (by rw [e, h])))
  have HZ1 := hidIt (HZ.out.keeps k1 (fun b _ e => e ▸ hbM))
  obtain ⟨xs, hrow, hbad, hxs⟩ := HK1.out
  have HX := hidIt (And.intro hbad hxs)
  have hB1 : base ≤ w1.heap.size := Nat.le_trans hB k1.size
  clear hbad hxs
  go_wp2_with (at_builtin; refine append_both rfl _ _ rfl base i0 hi hz0 hz1 hz2 aK K.length cK xs rfl (hrow.alloc _) ⟨w1.heap.size, 0, none⟩ (.slice ak mk ck) rfl (cell_one_new _ _ _) (by intro u hu; simp at hu; subst hu; rfl) (by unfold maxLen; omega) (by omega) (by simp; omega) ?_; intro v' w2 hown2 hgrow2 hloc2 hfull2)
  have R := OwnList.append _ hrow HX.out.1 HX.out.2 hmk' HZ1.out hown2 hgrow2 hloc2
  have hS2 : SetIs w2 M (S ++ [Z]) := hS1.of_block (R.2.block M hS1.lt (fun h => hMK h.symm))
  have HFl : Hid (cK < K.length + 1 → Keeps w w2 (fun k => k = M)) := fun hc => k1.trans ((Keeps.alloc _ _ _).trans ((Keeps.ofGrown (hfull2 hc)).mono (fun _ _ h => by cases h)))
  clear hown2 hgrow2 hloc2 hrow HX hS1 hfull2
  go_wp2
  go_ret2
  exact ⟨v', w1.heap.size, rfl, k1.size, R.1, hS2, (k1.mono (fun k _ h => .inr h)).trans (R.2.mono (fun k _ h => .inl h)), HFl.out⟩

theorem makeMapHint (x : Int) (w : World) : (Instr.makeMap 24 (some (.int .i64 x))).run Try.prog w = .ok (.map (some w.heap.size)) (w.alloc (.map #[] 0)) := by
  simp [Instr.makeMap, run_underlying Try.underlying24, asInt, Result.andThen]
  rfl

set_option maxRecDepth 100000 in
set_option maxHeartbeats 4000000 in
/-- key is not among the object's keys, and there are sixteen or more: the map is made -/
theorem addKey_nil_many (base p : Nat) (obj : Bool) (f : Nat) (it : Int) (aK : Option Addr) (n cK : Nat) (bad : Nat → Prop) (K : List (List Int)) (ak : Option Addr) (mk ck : Nat) (Z : List Int) (w : World)
    (hbox : BoxAt w p obj f it none) (hK : OwnList w base (.slice aK n cK) bad K) (hKn : K.length = n) (hB : base ≤ w.heap.size) (hbp : bad p) (hpK : (Value.slice aK n cK).ownBlock ≠ some p)
    (hf : f ≤ n) (hn : n ≤ 1000000) (hmk : mk ≤ maxLen) (hZ : TextOff w bad ak mk Z) (hmem : Z ∉ K.drop f) (h16 : ¬ n - f < 16) :
    Calls Try.prog 33 #[.pointer (some ⟨p, 0, none⟩), .slice aK n cK, .slice ak mk ck] w fun e w' => ∃ v' B1 M, e = .returned (.tuple #[v', .bool true]) ∧ w.heap.size ≤ B1 ∧ w.heap.size ≤ M ∧ OwnList w' base v' (fun k => bad k ∨ B1 ≤ k) (K ++ [Z]) ∧ SetIs w' M (K.drop f ++ [Z]) ∧ BoxAt w' p obj f it (some M) ∧ Keeps w w' (fun k => some k = (Value.slice aK n cK).ownBlock ∨ k = p) ∧ (cK < n + 1 → Keeps w w' (fun k => k = p)) := by
  have heq := eqlMapNil
  have hmm := makeMapHint
  subst hKn
  obtain ⟨aF, cF, eF, hnc, hL⟩ := hK.form
  cases eF
  obtain ⟨ao, hsl, hown⟩ := slice_from' aK K.length cK f hf hnc
  have hbox0 := hbox
  obtain ⟨c0, c1, c2, c3, fr⟩ := hbox
  obtain ⟨i0, hi, hz0, hz1, hz2⟩ := info_parts info22
  have HB0 := hidIt hbox0
  have HO := hidIt hown
  have HL := hidIt hL
  have HM := hidIt hmem
  have HZ := hidIt hZ
  have HK := hidIt hK
  clear hown hmem hZ hL hK hbox0
  have hmk' := hmk
  unfold maxLen at hmk
  go_enter Try.func33, Try.ntmps33
  go_wp2
  go_loop [26] (fun i => ∃ k : Nat, k ≤ K.length - f ∧ i = .int .i64 k) (fun i => (K.length - f) - (intOf i).toNat)
  case atStart => exact ⟨0, Nat.zero_le _, rfl⟩
  case round =>
    obtain ⟨k, hk, rfl⟩ := hrel
    by_cases hlt : k < K.length - f
    · have hLo := HO.out _ _ _ HL.out
      obtain ⟨b, off, rfl, _, hcl⟩ := hLo.2 (by omega)
      obtain ⟨a1, n1, c1', g1, m1, t1⟩ := hcl k hlt
      have e : ¬ (K.drop f)[k]?.getD [] = Z := by
        intro e
        apply HM.out
        rw [← e, List.getElem?_eq_getElem (by rw [hLo.1]; exact hlt)]
        exact List.getElem_mem _
      have HE := hidIt (bytesEqual_any w.heap.size a1 n1 c1' ak mk ck _ Z w t1 HZ.out.1)
      rw [decide_eq_false e] at HE
      clear hcl t1 e hLo
      unfold maxLen at m1
      go_wp2_with (go_at_call 42; refine HE.out.mono ?_; intro e w' h; obtain ⟨rfl, h⟩ := h; rw [h]; clear h w')
      go_round
      case rel => exact ⟨k + 1, by omega, by go_num⟩
      case measure => simp [intOf]; omega
    · have hpl : p < w.heap.size := World.block_lt_of_cell? _ _ c3
      have ka : Keeps w (w.alloc (.map #[] 0)) (fun _ => False) := Keeps.alloc _ _ _
      have c3' : (w.alloc (.map #[] 0)).cell? ⟨p, 3, none⟩ = some (.map none) := ka.cell c3 (fun h => h)
      have fr' : (w.alloc (.map #[] 0)).frozen? ⟨p, 3, none⟩ = false := (ka.frozen hpl (fun h => h)).trans fr
      have HS0 := hidIt (SetIs.made w)
      generalize hM : w.heap.size = M at *
      go_wp2
      have kS := Keeps.setCell w ⟨p, 3, none⟩ (.map (some M))
      have kA := Keeps.alloc (w.setCell ⟨p, 3, none⟩ (.map (some M))) (.map #[] 0) (fun k => k = p)
      have k2 : Keeps w ((w.setCell ⟨p, 3, none⟩ (.map (some M))).alloc (.map #[] 0)) (fun k => k = p) := kS.trans kA
      have kA2 := Keeps.alloc (w.setCell ⟨p, 3, none⟩ (.map (some M))) (.map #[] 0) (fun _ => False)
      have HS2 : Hid (SetIs ((w.setCell ⟨p, 3, none⟩ (.map (some M))).alloc (.map #[] 0)) M []) := by
        have := SetIs.made (w.setCell ⟨p, 3, none⟩ (.map (some M)))
        rwa [Go.Deep.nblk_setCell, hM] at this
      have HBx : Hid (BoxAt ((w.setCell ⟨p, 3, none⟩ (.map (some M))).alloc (.map #[] 0)) p obj f it (some M)) := by
        refine ⟨kA2.cell ?_ (fun h => h), kA2.cell ?_ (fun h => h), kA2.cell ?_ (fun h => h), kA2.cell ?_ (fun h => h), (kA2.frozen (by rw [Go.Deep.nblk_setCell, hM]; exact hpl) (fun h => h)).trans ?_⟩
        · rw [World.cell?_setCell_other _ _ _ _ (by simp)]; exact c0
        · rw [World.cell?_setCell_other _ _ _ _ (by simp)]; exact c1
        · rw [World.cell?_setCell_other _ _ _ _ (by simp)]; exact c2
        · exact World.cell?_setCell_same _ _ _ c3
        · rw [World.frozen?_setCell]; exact fr
      generalize (w.setCell ⟨p, 3, none⟩ (.map (some M))).alloc (.map #[] 0) = w2 at *
      clear ka kS kA kA2 c3' fr' HS0 c0 c1 c2 c3 fr HB0
      have hMpos := hidIt hM
      clear hM
      go_loopw [51] (fun i wr => ∃ k : Nat, k ≤ K.length - f ∧ i = .int .i64 k ∧ Hid (SetIs wr M ((K.drop f).take k)) ∧ Hid (Keeps w2 wr (fun b => b = M))) (fun i _ => (K.length - f) - (intOf i).toNat)
      case atStart => exact ⟨0, Nat.zero_le _, rfl, HS2.out, Keeps.refl _ _⟩
      case round =>
        obtain ⟨j, hj, rfl, HS, HKp⟩ := hrel
        have HKw : Hid (Keeps w wr (fun b => b = p ∨ b = M)) := (k2.mono (fun _ _ h => .inl h)).trans (HKp.out.mono (fun _ _ h => .inr h))
        have hob : ∀ b, (Value.slice aK K.length cK).ownBlock = some b → b < M := by
          intro b hb
          obtain ⟨xs, hr, _⟩ := HK.out
          have := (hr.lt b hb).2
          have := hMpos.out; omega
        have hsub : ∀ b, b < w.heap.size → (b = p ∨ b = M) → bad b := by
          intro b hb h
          rcases h with h | h
          · exact h ▸ hbp
          · have := hMpos.out; omega
        have HKr := hidIt (HK.out.keeps HKw.out hsub (fun b hb h => by
          rcases h with h | h
          · exact hpK (h ▸ hb)
          · have := hob b hb; omega))
        have HZr := hidIt (HZ.out.keeps HKw.out hsub)
        have HBr := hidIt (HBx.out.keeps HKp.out (by show ¬ p = M; omega))
        clear hsub HL
        obtain ⟨d0, d1, d2, d3, dfr⟩ := HBr.out
        by_cases hltj : j < K.length - f
        · have hLr : ListIn wr wr.heap.size aK K.length K := by
            obtain ⟨a', c', e', _, h⟩ := HKr.out.form
            cases e'; exact h
          have hLo := HO.out _ _ _ hLr
          obtain ⟨b, off, rfl, _, hcl⟩ := hLo.2 (by omega)
          obtain ⟨a1, n1, c1', g1, m1, t1⟩ := hcl j hltj
          have hconv : (convert 22 9 (.slice a1 n1 c1')).run Try.prog wr.drew = .ok (.string (strOfNums ((K.drop f)[j]?.getD []))) wr.drew := conv_any (t1.drawn (w' := wr.drewN 1) ⟨1, rfl⟩)
          obtain ⟨w3, hup, hS3, hg3⟩ := (HS.out.drawn (w' := wr.drewN 1) ⟨1, rfl⟩).put ((K.drop f)[j]?.getD []) (by rw [t1.1]; exact m1) (by rw [List.length_take]; unfold maxLen; omega)
          have hup' : (Instr.mapUpdate 24 (.map (some M)) (.string (strOfNums ((K.drop f)[j]?.getD []))) (.bool true)).run Try.prog wr.drew = .ok () w3 := hup
          have HS' : Hid (SetIs w3 M ((K.drop f).take (j + 1))) := by
            show SetIs _ _ _
            rw [List.take_succ_eq_append_getElem (by rw [hLo.1]; exact hltj)]
            have e : (K.drop f)[j]?.getD [] = (K.drop f)[j]'(by rw [hLo.1]; exact hltj) := by rw [List.getElem?_eq_getElem (by rw [hLo.1]; exact hltj)]; rfl
            rw [e] at hS3
            exact hS3
          have HK3 : Hid (Keeps w2 w3 (fun b => b = M)) := HKp.out.trans ((Keeps.drawn ⟨1, rfl⟩ _).trans ((Keeps.ofGrown hg3).mono (fun k _ h => by cases h; rfl)))
          clear hcl t1 hLo hLr hup hS3 hg3 HS HKp HKw HKr HZr HBr
          unfold maxLen at m1
          generalize strOfNums ((K.drop f)[j]?.getD []) = sx at *
          go_wp2
          go_region
          go_wp2
          go_roundw
          case rel => exact ⟨j + 1, by omega, by go_num, HS', HK3⟩
          case measure => simp [intOf]; omega
        · have hzl : Z.length ≤ maxLen := by rw [HZ.out.1.1]; exact hmk'
          have hconv : (convert 22 9 (.slice ak mk ck)).run Try.prog wr.drew = .ok (.string (strOfNums Z)) wr.drew := conv_any (HZr.out.1.drawn (w' := wr.drewN 1) ⟨1, rfl⟩)
          have hSr : SetIs wr M (K.drop f) := by
            have := HS.out
            rwa [List.take_of_length_le (by rw [List.length_drop]; omega)] at this
          obtain ⟨w3, hup, hS3, hg3⟩ := (hSr.drawn (w' := wr.drewN 1) ⟨1, rfl⟩).put Z hzl (by rw [List.length_drop]; unfold maxLen; omega)
          have hup' : (Instr.mapUpdate 24 (.map (some M)) (.string (strOfNums Z)) (.bool true)).run Try.prog wr.drew = .ok () w3 := hup
          have k3 : Keeps wr w3 (fun b => b = M) := (Keeps.drawn ⟨1, rfl⟩ _).trans ((Keeps.ofGrown hg3).mono (fun k _ h => by cases h; rfl))
          have kw3 : Keeps w w3 (fun b => b = p ∨ b = M) := HKw.out.trans (k3.mono (fun _ _ h => .inr h))
          have hsub : ∀ b, b < w.heap.size → (b = p ∨ b = M) → bad b := by
            intro b hb h
            rcases h with h | h
            · exact h ▸ hbp
            · have := hMpos.out; omega
          have HK3 := hidIt (HK.out.keeps kw3 hsub (fun b hb h => by
            rcases h with h | h
            · exact hpK (h ▸ hb)
            · have := hob b hb; omega))
          have HZ3 := hidIt (HZ.out.keeps kw3 hsub)
          have HB3 := hidIt (HBr.out.keeps k3 (by show ¬ p = M; omega))
          have HS3 := hidIt hS3
          obtain ⟨xs, hrow, hbad, hxs⟩ := HK3.out
          have HX := hidIt (And.intro hbad hxs)
          have hB3 : base ≤ w3.heap.size := Nat.le_trans hB (by have := kw3.size; have := hMpos.out; omega)
          have hMw := hMpos.out
          clear hup hSr hS3 hg3 HS HKp HKw HKr HZr HBr hbad hxs hsub k3 hzl
          generalize strOfNums Z = sz at *
          have hMw' := hidIt hMw
          clear hMw
          go_wp2
          go_region
          go_wp2_with (at_builtin; refine append_both rfl _ _ rfl base i0 hi hz0 hz1 hz2 aK K.length cK xs rfl (hrow.alloc _) ⟨w3.heap.size, 0, none⟩ (.slice ak mk ck) rfl (cell_one_new _ _ _) (by intro u hu; simp at hu; subst hu; rfl) (by unfold maxLen; omega) (by omega) (by simp; omega) ?_; intro v' w4 hown4 hgrow4 hloc4 hfull4)
          have R := OwnList.append _ hrow HX.out.1 HX.out.2 hmk' HZ3.out hown4 hgrow4 hloc4
          have hS4 : SetIs w4 M (K.drop f ++ [Z]) := HS3.out.of_block (R.2.block M HS3.out.lt (fun h => by have := hob M h.symm; omega))
          have hB4 : BoxAt w4 p obj f it (some M) := HB3.out.keeps R.2 (fun h => hpK h.symm)
          have hK4 : Keeps w w4 (fun k => some k = (Value.slice aK K.length cK).ownBlock ∨ k = p) := (kw3.mono (fun k hk h => by rcases h with h | h; exact .inr h; exact absurd h (by have := hMw'.out; omega))).trans (R.2.mono (fun k _ h => .inl h))
          have hR1 := R.1
          have hsz : M ≤ w3.heap.size := by have := kw3.size; have := hMw'.out; omega
          have HFl : Hid (cK < K.length + 1 → Keeps w w4 (fun k => k = p)) := fun hc => (kw3.mono (fun k hk h => by rcases h with h | h; exact h; exact absurd h (by have := hMw'.out; omega))).trans ((Keeps.alloc _ _ _).trans ((Keeps.ofGrown (hfull4 hc)).mono (fun _ _ h => by cases h)))
          clear hown4 hgrow4 hloc4 hrow HX hfull4
          go_wp2
          go_ret2
          exact ⟨v', w3.heap.size, M, rfl, by have := hMw'.out; omega, by have := hMw'.out; omega, hR1, hS4, hB4, hK4, HFl.out⟩
end Go.Proofs.Qxb6603095a.Wl
