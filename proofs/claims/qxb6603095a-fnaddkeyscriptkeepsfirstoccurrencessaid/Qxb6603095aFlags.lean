import Derived.Test.Qxb6603095aSort
namespace Go.Proofs.Qxb6603095a.Wl
open Go.RowKit
open Go.Proofs.Qxb6603095a.Pl Go.Proofs.Qxb6603095a.Bs
set_option linter.unusedVariables false

theorem count_take (f : Nat → Bool) (O : List Nat) (k : Nat) (hk : k < O.length) : (O.take (k + 1)).countP f = (O.take k).countP f + (if f (O[k]?.getD 0) then 1 else 0) := by
  rw [List.take_succ_eq_append_getElem hk, List.countP_append, List.countP_singleton, List.getElem?_eq_getElem hk]; rfl
theorem contains_take (O : List Nat) (k : Nat) (hk : k < O.length) (i : Nat) : (O.take (k + 1)).contains i = ((O.take k).contains i || i == O[k]?.getD 0) := by
  rw [List.take_succ_eq_append_getElem hk, List.getElem?_eq_getElem hk, Bool.eq_iff_iff]
  simp only [List.contains_iff_mem, List.mem_append, List.mem_singleton, Bool.or_eq_true, beq_iff_eq, Option.getD_some]

theorem beq_dec (x y : List Int) : (x == y) = decide (x = y) := by
  by_cases h : x = y
  · rw [decide_eq_true h, beq_iff_eq.2 h]
  · rw [decide_eq_false h, beq_eq_false_iff_ne.2 h]

set_option maxRecDepth 100000 in
set_option maxHeartbeats 2000000 in
theorem flags_any (B : Nat) (a : Option Addr) (n c : Nat) (A : List (List Int)) (w : World) (hn : n ≤ 65536) (hB : B ≤ w.heap.size) (hA : ListIn w B a n A) :
    Calls Try.prog 15 #[.slice a n c] w fun e w' => ∃ g : Nat, e = .returned (.tuple #[.slice (some ⟨g, 0, none⟩) n n, .int .i64 (nDiff A : Nat)]) ∧ w.heap.size ≤ g ∧ w'.rowIs g 4 n (fun i => .bool (firstB A i)) ∧ Below w.heap.size w w' := by
  have HA := hidIt hA
  have hAl := hA.1
  have HAl := hidIt hAl
  have HS := hidIt (sort_any B a n c A w hn hB hA)
  clear hA hAl
  have hmk := fun wx => run_make_row' (P := Try.prog) (w := wx) 27 4 (.bool false) 1 Try.underlying27 info4 rfl .i64 .i64 n (by omega) (by omega)
  generalize hG : w.heap.size = G at *
  have HG := hidIt hG
  clear hG
  go_enter Try.func15, Try.ntmps15
  go_wp2_with fail
  refine HS.out.mono ?_
  rintro e w1 ⟨g, O, rfl, hg, hrow, hp, hs, hb1⟩
  have HR1 := hidIt hrow
  have HP := hidIt (And.intro hp hs)
  have hgl := hrow.lt
  clear hrow hp hs HS
  have HF0 := hidIt (World.rowIs_made w1 (.bool false) n 4)
  generalize hF : w1.heap.size = F at *
  go_wp2
  generalize hw2 : w1.alloc (Obj.cells (madeCells #[Value.bool false] n) 4) = w2 at *
  have hb2 : Below G w w2 := by rw [← hw2]; exact hb1.alloc (by have := hb1.size; have := HG.out; omega) _
  have HR2 : Hid (IdxRow w2 g n O) := by rw [← hw2]; exact World.rowIs.alloc HR1.out _
  have hGF : G ≤ F := by have := hb1.size; have := HG.out; omega
  have hgF : g ≠ F := by omega
  clear hw2 hF HR1 hb1 hgl
  go_loopw [6, 7] (fun d t wx => ∃ (k D : Nat), k ≤ n ∧ D ≤ k ∧ t = .int .i64 k ∧ d = .int .i64 D ∧ Hid (D = (O.take k).countP (firstB A)) ∧ Hid (IdxRow wx g n O ∧ wx.rowIs F 4 n (fun i => .bool ((O.take k).contains i && firstB A i))) ∧ Below G w wx) (fun _ t _ => n - (intOf t).toNat)
  case atStart => exact ⟨0, 0, Nat.zero_le _, Nat.zero_le _, rfl, rfl, rfl, ⟨HR2.out, HF0.out.congr (fun i _ => by simp)⟩, hb2⟩
  case round =>
    obtain ⟨k, D, hk, hD, rfl, rfl, HD, HM, hnx⟩ := hrel
    clear hb2 HR2 HF0
    have hOl : O.length = n := by have := HP.out.1.length_eq; simpa using this
    have HOl := hidIt hOl
    clear hOl
    by_cases hlt : k < n
    · have hx := perm_lt n O HP.out.1 k hlt
      have gk := HM.out.1.cell hlt
      have hat := at_first A n O HP.out.1 HP.out.2 k hlt
      have hi1 : (k : Int) < (n : Int) := by omega
      have gx0 := HM.out.2.cell hx
      have gf := HM.out.2.frozen (O[k]?.getD 0)
      have HY : Hid (∀ wd, Drawn wr wd → firstB A (O[k]?.getD 0) = true → IdxRow (wd.setCell ⟨F, O[k]?.getD 0, none⟩ (.bool true)) g n O ∧ (wd.setCell ⟨F, O[k]?.getD 0, none⟩ (.bool true)).rowIs F 4 n (fun i => .bool ((O.take (k + 1)).contains i && firstB A i)) ∧ Below G w (wd.setCell ⟨F, O[k]?.getD 0, none⟩ (.bool true))) := by
        intro wd hd hf
        have hd2 := hd.below wr.heap.size
        have r1 : IdxRow wd g n O := World.rowIs.of_block HM.out.1 (hd2.block g HM.out.1.lt)
        have r2 := World.rowIs.of_block HM.out.2 (hd2.block F HM.out.2.lt)
        refine ⟨World.rowIs.setOther r1 (by exact hgF) _, ?_, (hnx.trans (hd.below G)).setCell (by exact hGF) _⟩
        refine (r2.set (O[k]?.getD 0) (.bool true)).congr (fun i hi => ?_)
        rw [contains_take O k (by rw [HOl.out]; exact hlt)]
        by_cases e : i = O[k]?.getD 0
        · rw [if_pos e, e, hf]; simp
        · rw [if_neg e, beq_eq_false_iff_ne.2 e, Bool.or_false]
      have HN : Hid (∀ wd, Drawn wr wd → firstB A (O[k]?.getD 0) = false → IdxRow wd g n O ∧ wd.rowIs F 4 n (fun i => .bool ((O.take (k + 1)).contains i && firstB A i)) ∧ Below G w wd) := by
        intro wd hd hf
        have hd2 := hd.below wr.heap.size
        have r1 : IdxRow wd g n O := World.rowIs.of_block HM.out.1 (hd2.block g HM.out.1.lt)
        have r2 := World.rowIs.of_block HM.out.2 (hd2.block F HM.out.2.lt)
        refine ⟨r1, r2.congr (fun i hi => ?_), hnx.trans (hd.below G)⟩
        rw [contains_take O k (by rw [HOl.out]; exact hlt)]
        by_cases e : i = O[k]?.getD 0
        · rw [e, hf]; simp
        · rw [beq_eq_false_iff_ne.2 e, Bool.or_false]
      have HC : Hid ((O.take (k + 1)).countP (firstB A) = D + (if firstB A (O[k]?.getD 0) then 1 else 0)) := by
        show _ = _
        rw [count_take (firstB A) O k (by rw [HOl.out]; exact hlt), ← HD.out]
      have HT : Hid (∀ wd, Drawn wr wd → ListIn wd B a n A) := fun wd hd => (HA.out.below (hnx.mono (by have := HG.out; omega))).drawn hd
      have hGk1 : ∀ i, i < n → wr.cell? ⟨g, i, none⟩ = some (.int .i64 ((O[i]?.getD 0 : Nat) : Int)) := fun i hi => HM.out.1.cell hi
      clear HM HD
      by_cases h0 : k = 0
      · subst h0
        have hf : firstB A (O[0]?.getD 0) = true := by rw [← hat]; rfl
        have HY' : Hid (∀ wd, Drawn wr wd → IdxRow (wd.setCell ⟨F, O[0]?.getD 0, none⟩ (.bool true)) g n O ∧ (wd.setCell ⟨F, O[0]?.getD 0, none⟩ (.bool true)).rowIs F 4 n (fun i => .bool ((O.take (0 + 1)).contains i && firstB A i)) ∧ Below G w (wd.setCell ⟨F, O[0]?.getD 0, none⟩ (.bool true))) := fun wd hd => HY.out wd hd hf
        have HC' : Hid (D + 1 = (O.take (0 + 1)).countP (firstB A)) := by show _ = _; rw [HC.out, hf]; rfl
        generalize hv0 : Value.bool ((O.take 0).contains (O[0]?.getD 0) && firstB A (O[0]?.getD 0)) = v0 at *
        clear HY HN HC hat hf HT hv0 hGk1
        generalize O[0]?.getD 0 = x at *
        have hx' : (x : Int) < (n : Int) := by omega
        go_wp2
        go_quiet (fail)
        go_wp2
        go_roundw
        case rel => exact ⟨0 + 1, D + 1, by omega, by omega, by go_num, by go_num, HC', ⟨(HY'.out _ ⟨nq, rfl⟩).1, (HY'.out _ ⟨nq, rfl⟩).2.1⟩, (HY'.out _ ⟨nq, rfl⟩).2.2⟩
        case measure => simp [intOf]; omega
      · have hy := perm_lt n O HP.out.1 (k - 1) (by omega)
        have gk1 : wr.cell? ⟨g, k - 1, none⟩ = some (.int .i64 ((O[k - 1]?.getD 0 : Nat) : Int)) := hGk1 (k - 1) (by omega)
        obtain ⟨b, off, rfl, _, hcl⟩ := (HT.out wr (Drawn.refl _)).2 (by omega)
        obtain ⟨a1, n1, c1, g1, m1, t1⟩ := hcl (O[k]?.getD 0) hx
        obtain ⟨a2, n2, c2, g2, m2, t2⟩ := hcl (O[k - 1]?.getD 0) hy
        have HE : Hid (∀ nq, Calls Try.prog 18 #[.slice a1 n1 c1, .slice a2 n2 c2] (wr.drewN nq) fun e w' => e = .returned (.bool (decide (A[O[k]?.getD 0]?.getD [] = A[O[k - 1]?.getD 0]?.getD []))) ∧ ∃ m, w' = (wr.drewN nq).drewN m) := by
          intro nq
          exact equal_any B a1 n1 c1 a2 n2 c2 _ _ (wr.drewN nq) m1 m2 (t1.drawn ⟨nq, rfl⟩) (t2.drawn ⟨nq, rfl⟩)
        have hfb : firstB A (O[k]?.getD 0) = !decide (A[O[k]?.getD 0]?.getD [] = A[O[k - 1]?.getD 0]?.getD []) := by
          rw [← hat]
          unfold atB
          rw [beq_eq_false_iff_ne.2 h0, Bool.false_or, beq_dec]
        have f0 : ((k : Int) == 0) = false := beq_eq_false_iff_ne.2 (by omega)
        have j1 : (0 : Int) ≤ (k : Int) - 1 := by omega
        have j2 : (k : Int) - 1 < (n : Int) := by omega
        clear hcl t1 t2 HT hat hGk1
        unfold maxLen at m1 m2
        generalize decide (A[O[k]?.getD 0]?.getD [] = A[O[k - 1]?.getD 0]?.getD []) = eqb at *
        cases eqb with
        | false =>
          have hf : firstB A (O[k]?.getD 0) = true := by rw [hfb]; rfl
          have HY' : Hid (∀ wd, Drawn wr wd → IdxRow (wd.setCell ⟨F, O[k]?.getD 0, none⟩ (.bool true)) g n O ∧ (wd.setCell ⟨F, O[k]?.getD 0, none⟩ (.bool true)).rowIs F 4 n (fun i => .bool ((O.take (k + 1)).contains i && firstB A i)) ∧ Below G w (wd.setCell ⟨F, O[k]?.getD 0, none⟩ (.bool true))) := fun wd hd => HY.out wd hd hf
          have HC' : Hid (D + 1 = (O.take (k + 1)).countP (firstB A)) := by show _ = _; rw [HC.out, hf]; rfl
          generalize hv0 : Value.bool ((O.take k).contains (O[k]?.getD 0) && firstB A (O[k]?.getD 0)) = v0 at *
          clear HY HN HC hf hv0 hfb
          generalize O[k]?.getD 0 = x at *
          generalize O[k - 1]?.getD 0 = y at *
          have hx' : (x : Int) < (n : Int) := by omega
          have hy' : (y : Int) < (n : Int) := by omega
          go_wp2
          go_quiet ((go_at_call 18; exact Calls.quiet_of (HE.out _)))
          go_wp2
          go_roundw
          case rel => exact ⟨k + 1, D + 1, by omega, by omega, by go_num, by go_num, HC', ⟨(HY'.out _ ⟨nq, rfl⟩).1, (HY'.out _ ⟨nq, rfl⟩).2.1⟩, (HY'.out _ ⟨nq, rfl⟩).2.2⟩
          case measure => simp [intOf]; omega
        | true =>
          have hf : firstB A (O[k]?.getD 0) = false := by rw [hfb]; rfl
          have HN' : Hid (∀ wd, Drawn wr wd → IdxRow wd g n O ∧ wd.rowIs F 4 n (fun i => .bool ((O.take (k + 1)).contains i && firstB A i)) ∧ Below G w wd) := fun wd hd => HN.out wd hd hf
          have HC' : Hid (D = (O.take (k + 1)).countP (firstB A)) := by show _ = _; rw [HC.out, hf]; rfl
          clear HY HN HC hf hfb gx0 gf
          generalize O[k]?.getD 0 = x at *
          generalize O[k - 1]?.getD 0 = y at *
          have hx' : (x : Int) < (n : Int) := by omega
          have hy' : (y : Int) < (n : Int) := by omega
          go_wp2
          go_quiet ((go_at_call 18; exact Calls.quiet_of (HE.out _)))
          go_wp2
          go_roundw
          case rel => exact ⟨k + 1, D, by omega, by omega, by go_num, rfl, HC', ⟨(HN'.out _ ⟨nq, rfl⟩).1, (HN'.out _ ⟨nq, rfl⟩).2.1⟩, (HN'.out _ ⟨nq, rfl⟩).2.2⟩
          case measure => simp [intOf]; omega
    · have HF : Hid (D = nDiff A ∧ ∀ i, i < n → ((O.take k).contains i && firstB A i) = firstB A i) := by
        have e : O.take k = O := List.take_of_length_le (by rw [HOl.out]; omega)
        refine ⟨?_, fun i hi => ?_⟩
        · rw [HD.out, e, countP_take_perm A n O HP.out.1]
          unfold nDiff
          rw [HAl.out]
        · rw [e, show O.contains i = true from by rw [List.contains_iff_mem]; exact HP.out.1.mem_iff.2 (by simpa using hi), Bool.true_and]
      have hOk : Hid (wr.rowIs F 4 n (fun i => .bool (firstB A i))) := HM.out.2.congr (fun i hi => by rw [HF.out.2 i hi])
      have HDe := hidIt HF.out.1
      clear HM HD HF
      go_wp2
      go_ret2
      exact ⟨F, by rw [← HDe.out]; rfl, hGF, hOk.out, hnx⟩
end Go.Proofs.Qxb6603095a.Wl
