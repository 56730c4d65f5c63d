/- FnInsertAtEndsIsPush returns true. -/
import Derived.Test.YtbpbbmamgajimaaScene
import Derived.Test.YtbpbbmamgajimaaLast4
set_option linter.all false
namespace Go.Proofs.Ytbpbbmamgajimaa
open Go.RowKit
namespace Bead
set_option maxRecDepth 100000

/-- Two insertions at one place look alike. -/
theorem ins_alike {ns : List Cl} {l : Nat} (h : Scened ns l) {o1 o2 : Int} (h1 : o1 = 7 ∨ o1 = 8 ∨ o1 = 9 ∨ o1 = 10) (h2 : o2 = 7 ∨ o2 = 8 ∨ o2 = 9 ∨ o2 = 10) {x1 x2 j1 j2 : Nat} (v : Vl)
    (hx1 : o1 = 9 ∨ o1 = 10 → (runFrom Md.init ns).ret j1 = some x1 ∧ x1 ∈ (runFrom Md.init ns).seq l) (hx2 : o2 = 9 ∨ o2 = 10 → (runFrom Md.init ns).ret j2 = some x2 ∧ x2 ∈ (runFrom Md.init ns).seq l)
    (hp : posOf o1 x1 ((runFrom Md.init ns).seq l) = posOf o2 x2 ((runFrom Md.init ns).seq l)) :
    okFrom 501 Md.init (ns ++ [onL l (cIns (o1 - 4) j1 v)]) = true ∧ okFrom 501 Md.init (ns ++ [onL l (cIns (o2 - 4) j2 v)]) = true ∧
    ∀ k, Look k (runFrom Md.init (ns ++ [onL l (cIns (o1 - 4) j1 v)])) (runFrom Md.init (ns ++ [onL l (cIns (o2 - 4) j2 v)])) := by
  have ok1 : okFrom 501 Md.init ns = true := ok_mono (by decide) _ h.ok
  have hc5 := run_cnt_le ns h.ok (by simp [Md.init])
  have hw := h.wf
  have hl := h.lst
  have hnm := h.named
  generalize hM : runFrom Md.init ns = M at *
  have p1 := perm_ins hw h1 hl (v := v) (j := j1) (x := x1) hx1 (most := 501) (by omega)
  have p2 := perm_ins hw h2 hl (v := v) (j := j2) (x := x2) hx2 (most := 501) (by omega)
  have s1 := ins_step (m := M) (x := x1) (l := l) h1 (c := onL l (cIns (o1 - 4) j1 v)) rfl (by simp [onL]) (fun q => by simpa [onL, cIns] using hx1 q)
  have s2 := ins_step (m := M) (x := x2) (l := l) h2 (c := onL l (cIns (o2 - 4) j2 v)) rfl (by simp [onL]) (fun q => by simpa [onL, cIns] using hx2 q)
  refine ⟨?_, ?_, fun k => ?_⟩
  · rw [okFrom_append, ok1, hM]
    simp only [okFrom, Bool.and_true, Bool.true_and]
    exact (permitted_iff _ _ _).2 p1
  · rw [okFrom_append, ok1, hM]
    simp only [okFrom, Bool.and_true, Bool.true_and]
    exact (permitted_iff _ _ _).2 p2
  · rw [runFrom_append, runFrom_append, hM]
    show Look k (M.step _).1 (M.step _).1
    refine ⟨by rw [s1.seq, s2.seq, hp], fun e _ => by rw [s1.val, s2.val]; rfl, fun e he => ?_⟩
    rw [s1.fst, s2.fst]
    by_cases q : e = M.cnt
    · subst q; exact ⟨_, upd_same _ _ _, upd_same _ _ _⟩
    · rw [upd_other _ _ q]
      have hm : e ∈ M.seq k := by
        rw [s1.seq] at he
        by_cases z : k = l
        · subst z
          rw [upd_same] at he
          unfold ins at he
          rcases List.mem_append.1 he with y | y
          · exact List.mem_of_mem_take y
          · rcases List.mem_cons.1 y with y | y
            · exact absurd y q
            · exact List.mem_of_mem_drop y
        · rw [upd_other _ _ z] at he; exact he
      obtain ⟨i, hi⟩ := hnm k e hm
      exact ⟨i, hi, hi⟩

set_option maxHeartbeats 8000000 in
theorem insEnds_c {w : World} {v : Value} {cs : List Cl} (s : Scr w v cs) (hn : cs.length ≤ 1048576) (n : Int) (x : Vl) (hx : x.ok) :
    Calls Try.prog 12 #[v, .int .i64 n, x.agg] w fun r w' => r = .returned (.bool true) ∧ Below w.heap.size w w' := by
  have ST := Lib.hid (fun o => set_c (s.later (below1 w o)) hn n)
  have XO := Lib.hid hx
  clear s hx
  unfold Vl.agg
  go_enter Try.func12, Try.ntmps12
  go_wp2_with fail
  refine (ST.out _).mono ?_
  rintro r w1 ⟨hb1, hcase⟩
  have B1 := Lib.hid ((below1 w _).trans (hb1.mono (by simp)))
  have G1 := Lib.hid (heap_later (heap_alloc_new w _) hb1)
  clear hb1 ST
  rcases hcase with ⟨l, vs, ve, rfl, hsc, hok0, hl0, hs1, hn1⟩ | rfl
  · have SC := Lib.hid hsc; have S1 := Lib.hid hs1; have N1 := Lib.hid hn1
    generalize hns : namedC cs = ns at *
    clear hns hsc hok0 hl0
    obtain ⟨y1, y2, rfl⟩ := hs1.form
    have NL := Lib.hid (names_length (m := runFrom Md.init ns) ((runFrom Md.init ns).seq l))
    have hlen := scene_len SC.out
    rcases hq : (runFrom Md.init ns).seq l with _ | ⟨e0, s0⟩
    · have hE : (runFrom Md.init ns).names ((runFrom Md.init ns).seq l) = [] := by rw [hq]; rfl
      rw [hE] at hn1
      obtain ⟨x1, x2, rfl⟩ := hn1.form
      clear hs1 hn1 hE hq
      go_wp2
      go_ret
      exact ⟨rfl, B1.out.trans ((below1 w1 _).mono B1.out.size)⟩
    · obtain ⟨m, hm⟩ : ∃ m, ((runFrom Md.init ns).names ((runFrom Md.init ns).seq l)).length = m + 1 := ⟨s0.length, by rw [NL.out, hq]; rfl⟩
      obtain ⟨b1, o1, p1, hv1, cell1⟩ := hn1.cells (by intro q; rw [q] at hm; simp at hm)
      rw [hm] at hv1
      subst hv1
      obtain ⟨i0, hi0⟩ : ∃ i, ((runFrom Md.init ns).names ((runFrom Md.init ns).seq l))[0]? = some i := ⟨_, List.getElem?_eq_getElem (by omega)⟩
      obtain ⟨i1, hi1⟩ : ∃ i, ((runFrom Md.init ns).names ((runFrom Md.init ns).seq l))[m]? = some i := ⟨_, List.getElem?_eq_getElem (by omega)⟩
      have c0 := cell1 0 i0 hi0
      have c1 := cell1 m i1 hi1
      rw [Nat.add_zero] at c0
      have hbl : b1 < w1.heap.size := World.block_lt_of_cell? w1 _ c0
      have hm5 : m ≤ 500 := by rw [NL.out] at hm; omega
      obtain ⟨e0', he0, hf0, hr0⟩ := scene_get SC.out hi0
      obtain ⟨e1', he1, hf1, hr1⟩ := scene_get SC.out hi1
      have hln : ((runFrom Md.init ns).seq l).length = m + 1 := by rw [← NL.out]; exact hm
      have nd := SC.out.wf.nodup l
      obtain ⟨a1, a2, a3⟩ := ins_alike SC.out (o1 := 9) (o2 := 7) (by simp) (by simp) (x1 := e0') (x2 := 0) (j1 := i0) (j2 := 0) x (fun _ => ⟨hr0, List.mem_of_getElem? he0⟩) (fun q => by omega) (by simp only [posOf]; simp [idxOf_of_get nd he0])
      obtain ⟨d1, d2, d3⟩ := ins_alike SC.out (o1 := 10) (o2 := 8) (by simp) (by simp) (x1 := e1') (x2 := 0) (j1 := i1) (j2 := 0) x (fun _ => ⟨hr1, List.mem_of_getElem? he1⟩) (fun q => by omega) (by simp only [posOf]; simp [idxOf_of_get nd he1, hln])
      have A1 := Lib.hid a1; have A2 := Lib.hid a2; have A3 := Lib.hid a3; have D1 := Lib.hid d1; have D2 := Lib.hid d2; have D3 := Lib.hid d3
      have HL := Lib.hid (fun (m : List Cl) (k : Nat) (hk : k ∈ listsOf ns) => show (runFrom Md.init (ns ++ m)).isL k = true by rw [runFrom_append]; exact run_isL_mono m (mem_lists k hk))
      have LN := SC.out.len
      clear hs1 hn1 hq hm hi0 hi1 cell1 he0 hf0 hr0 he1 hf1 hr1 hln nd a1 a2 a3 d1 d2 d3 hlen
      have hw0 : w.heap.size < w1.heap.size := (Array.getElem?_eq_some_iff.1 G1.out).1
      have v0 := cell_of_heap (o := 0) G1.out rfl
      have v1 := cell_of_heap (o := 1) G1.out rfl
      have v2 := cell_of_heap (o := 2) G1.out rfl
      have wq : IntKind.i64.wrap (((m : Int) + 1) - 1) = (m : Int) := by rw [IntKind.wrap_i64]; omega
      go_wp2_with fail
      go_quiet (fail)
      obtain ⟨w2, hw2⟩ : ∃ W, W = (w1.alloc (.cells #[.slice y1 ns.length y2, .int .i64 (l : Nat), .slice (some ⟨b1, o1, none⟩) (m + 1) p1] 46)).drewN nq := ⟨_, rfl⟩
      have hb2 : Below w1.heap.size w1 w2 := by rw [hw2]; exact Below.drewN' (below1 w1 _) _
      have B2 := Lib.hid (B1.out.trans (hb2.mono B1.out.size))
      have BX : Hid (w2.heap[w1.heap.size]? = some (.cells #[.slice y1 ns.length y2, .int .i64 (l : Nat), .slice (some ⟨b1, o1, none⟩) (m + 1) p1] 46 (0, 0))) := by show _ = _; rw [hw2]; exact heap_alloc_new w1 _
      have VX := Lib.hid (heap_later G1.out hb2)
      have S2 := Lib.hid (S1.out.later hb2)
      rw [← hw2]
      clear hw2 hb2 c0 c1 v0 v1 v2 hw0 hbl wq
      have HSW0 : ∀ W, Below w2.heap.size w2 W → (fun W => W.cell? ⟨w1.heap.size, 0, none⟩ = some (.slice y1 ns.length y2) ∧ W.cell? ⟨w1.heap.size, 1, none⟩ = some (.int .i64 (l : Nat)) ∧ W.cell? ⟨w1.heap.size, 2, none⟩ = some (.slice (some ⟨b1, o1, none⟩) (m + 1) p1) ∧ W.cell? ⟨w.heap.size, 0, none⟩ = some (.int .i64 x.kind) ∧ W.cell? ⟨w.heap.size, 1, none⟩ = some (.int .i64 x.n) ∧ W.cell? ⟨w.heap.size, 2, none⟩ = some (.string x.s)) W := fun W hb => ⟨cell_of_heap (o := 0) (heap_later BX.out hb) rfl, cell_of_heap (o := 1) (heap_later BX.out hb) rfl, cell_of_heap (o := 2) (heap_later BX.out hb) rfl, cell_of_heap (o := 0) (heap_later VX.out hb) rfl, cell_of_heap (o := 1) (heap_later VX.out hb) rfl, cell_of_heap (o := 2) (heap_later VX.out hb) rfl⟩
      go_wp2_with fail
      refine wp_region_T (fun W => W.cell? ⟨w1.heap.size, 0, none⟩ = some (.slice y1 ns.length y2) ∧ W.cell? ⟨w1.heap.size, 1, none⟩ = some (.int .i64 (l : Nat)) ∧ W.cell? ⟨w1.heap.size, 2, none⟩ = some (.slice (some ⟨b1, o1, none⟩) (m + 1) p1) ∧ W.cell? ⟨w.heap.size, 0, none⟩ = some (.int .i64 x.kind) ∧ W.cell? ⟨w.heap.size, 1, none⟩ = some (.int .i64 x.n) ∧ W.cell? ⟨w.heap.size, 2, none⟩ = some (.string x.s)) [6, 7, 11, 12, 13, 21, 22, 26, 27, 28] [] run_mixed ?_
      simp only [List.size_toArray, List.length_cons, List.length_nil]
      have hb23 : Below w2.heap.size w2 w2.drew := (Below.refl _ _).drew
      have S3 : Hid (Scr w2.drew (.slice y1 ns.length y2) ns) := S2.out.later hb23
      have B3 := Lib.hid (B2.out.trans (hb23.mono B2.out.size))
      have z23 : w2.drew.heap.size = w2.heap.size := rfl
      generalize w2.drew = w3 at *
      have HSW : Hid (∀ W, Below w3.heap.size w3 W → (fun W => W.cell? ⟨w1.heap.size, 0, none⟩ = some (.slice y1 ns.length y2) ∧ W.cell? ⟨w1.heap.size, 1, none⟩ = some (.int .i64 (l : Nat)) ∧ W.cell? ⟨w1.heap.size, 2, none⟩ = some (.slice (some ⟨b1, o1, none⟩) (m + 1) p1) ∧ W.cell? ⟨w.heap.size, 0, none⟩ = some (.int .i64 x.kind) ∧ W.cell? ⟨w.heap.size, 1, none⟩ = some (.int .i64 x.n) ∧ W.cell? ⟨w.heap.size, 2, none⟩ = some (.string x.s)) W) := fun W hb => HSW0 W (hb23.trans (hb.mono (by rw [z23]; exact Nat.le_refl _)))
      have HB0 := Lib.hid (Below.refl w3.heap.size w3)
      have HS := HSW.out w3 HB0.out
      clear hb23 z23 HSW0
      refine wpT_takeG (i := 0) (v := ?va0) rfl (by kernel_rfl) (fun _ _ _ h => h) rfl ?ya0 ?ra0
      case ya0 => ((intro wz; go_simp); try with_reducible rfl)
      try simp only [Act.put, List.setIfInBounds_toArray, List.set_cons_zero, List.set_cons_succ]
      refine wpT_loadG (i := 1) (v := ?va1) rfl (by kernel_rfl) (fun _ _ _ h => h) rfl ?ya1 HS ?ra1
      case ya1 => ((intro wz hSw; (try dsimp only at hSw); go_split_ands; go_simp); try with_reducible rfl)
      try simp only [Act.put, List.setIfInBounds_toArray, List.set_cons_zero, List.set_cons_succ]
      refine wpT_loadG (i := 2) (v := ?va2) rfl (by kernel_rfl) (fun _ _ _ h => h) rfl ?ya2 HS ?ra2
      case ya2 => ((intro wz hSw; (try dsimp only at hSw); go_split_ands; go_simp); try with_reducible rfl)
      try simp only [Act.put, List.setIfInBounds_toArray, List.set_cons_zero, List.set_cons_succ]
      refine wpT_takeG (i := 3) (v := ?va3) rfl (by kernel_rfl) (fun _ _ _ h => h) rfl ?ya3 ?ra3
      case ya3 => ((intro wz; go_simp); try with_reducible rfl)
      try simp only [Act.put, List.setIfInBounds_toArray, List.set_cons_zero, List.set_cons_succ]
      refine wpT_loadG (i := 4) (v := ?va4) rfl (by kernel_rfl) (fun _ _ _ h => h) rfl ?ya4 HS ?ra4
      case ya4 => ((intro wz hSw; (try dsimp only at hSw); go_split_ands; go_simp); try with_reducible rfl)
      try simp only [Act.put, List.setIfInBounds_toArray, List.set_cons_zero, List.set_cons_succ]
      refine wpT_takeG (i := 5) (v := ?va5) rfl (by kernel_rfl) (fun _ _ _ h => h) rfl ?ya5 ?ra5
      case ya5 => ((intro wz; go_simp); try with_reducible rfl)
      try simp only [Act.put, List.setIfInBounds_toArray, List.set_cons_zero, List.set_cons_succ]
      refine wpT_loadG (i := 8) (v := ?va8) rfl (by kernel_rfl) (fun _ _ _ h => h) rfl ?ya8 HS ?ra8
      case ya8 => ((intro wz hSw; (try dsimp only at hSw); go_split_ands; go_simp); try with_reducible rfl)
      try simp only [Act.put, List.setIfInBounds_toArray, List.set_cons_zero, List.set_cons_succ]
      refine wpT_loadG (i := 9) (v := ?va9) rfl (by kernel_rfl) (fun _ _ _ h => h) rfl ?ya9 HS ?ra9
      case ya9 => ((intro wz hSw; (try dsimp only at hSw); go_split_ands; go_simp); try with_reducible rfl)
      try simp only [Act.put, List.setIfInBounds_toArray, List.set_cons_zero, List.set_cons_succ]
      refine wpT_takeG (i := 10) (v := ?va10) rfl (by kernel_rfl) (fun _ _ _ h => h) rfl ?ya10 ?ra10
      case ya10 => ((intro wz; go_simp); try with_reducible rfl)
      try simp only [Act.put, List.setIfInBounds_toArray, List.set_cons_zero, List.set_cons_succ]
      refine wpT_two (i := 6) (j := 11) (by kernel_rfl) rfl rfl rfl rfl ?_ ?_
      · go_simp
        have SF1 : Hid (Scr (w3.alloc (.cells #[.int .i64 5, .int .i64 0, .int .i64 0, .int .i64 0, .int .i64 i0, .int .i64 x.kind, .int .i64 x.n, .string x.s] 29)) (.slice y1 ns.length y2) ns) := S3.out.later (below1 _ _)
        have SF2 : Hid (Scr (w3.alloc (.cells #[.int .i64 5, .int .i64 0, .int .i64 0, .int .i64 0, .int .i64 i0, .int .i64 x.kind, .int .i64 x.n, .string x.s] 29)) (.slice (some ⟨w3.heap.size, 0, none⟩) 1 1) [cIns 5 i0 x]) := scr_lit w3 [cIns 5 i0 x] 29 (w3.heap.size) 1 (by simp) rfl (by simp [cIns]; exact XO.out)
        refine ⟨cond_keep (by decide) (HSW.out _ (HB0.out.trans ((below1 w3 _).mono HB0.out.size))), ?_⟩
        refine wpT_two (i := 7) (j := 11) (by kernel_rfl) rfl rfl rfl rfl ?_ ?_
        · go_simp
          refine (with_c (ns := ns) (cl := [cIns 5 i0 x]) (l := l) SF1.out SF2.out ⟨_, _, _, rfl⟩ (by simp; omega)).mono ?_
          rintro r W3 ⟨va4, rfl, sa5, hb6⟩
          have HB7 := Lib.hid ((HB0.out.trans ((below1 w3 _).mono HB0.out.size)).trans (hb6.mono ((HB0.out.trans ((below1 w3 _).mono HB0.out.size))).size))
          have SF8 : Hid (Scr W3 (.slice y1 ns.length y2) ns) := SF1.out.later hb6
          have SF9 := Lib.hid sa5
          clear sa5 hb6
          refine ⟨cond_keep (by decide) (HSW.out _ HB7.out), ?_⟩
          refine wpT_runG (i := 11) (by kernel_rfl) rfl rfl ?_
          go_simp
          have SF10 : Hid (Scr (W3.alloc (.cells #[.int .i64 3, .int .i64 0, .int .i64 0, .int .i64 0, .int .i64 0, .int .i64 x.kind, .int .i64 x.n, .string x.s] 29)) (.slice y1 ns.length y2) ns) := SF8.out.later (below1 _ _)
          have SF11 : Hid (Scr (W3.alloc (.cells #[.int .i64 3, .int .i64 0, .int .i64 0, .int .i64 0, .int .i64 0, .int .i64 x.kind, .int .i64 x.n, .string x.s] 29)) (va4) (ns ++ [cIns 5 i0 x].map (onL l))) := SF9.out.later (below1 _ _)
          have SF12 : Hid (Scr (W3.alloc (.cells #[.int .i64 3, .int .i64 0, .int .i64 0, .int .i64 0, .int .i64 0, .int .i64 x.kind, .int .i64 x.n, .string x.s] 29)) (.slice (some ⟨W3.heap.size, 0, none⟩) 1 1) [cIns 3 0 x]) := scr_lit W3 [cIns 3 0 x] 29 (W3.heap.size) 1 (by simp) rfl (by simp [cIns]; exact XO.out)
          refine ⟨cond_keep (by decide) (HSW.out _ (HB7.out.trans ((below1 W3 _).mono HB7.out.size))), ?_⟩
          refine wpT_runG (i := 12) (by kernel_rfl) rfl rfl ?_
          go_simp
          refine (with_c (ns := ns) (cl := [cIns 3 0 x]) (l := l) SF10.out SF12.out ⟨_, _, _, rfl⟩ (by simp; omega)).mono ?_
          rintro r W13 ⟨va14, rfl, sa15, hb16⟩
          have HB17 := Lib.hid ((HB7.out.trans ((below1 W3 _).mono HB7.out.size)).trans (hb16.mono ((HB7.out.trans ((below1 W3 _).mono HB7.out.size))).size))
          have SF18 : Hid (Scr W13 (.slice y1 ns.length y2) ns) := SF10.out.later hb16
          have SF19 : Hid (Scr W13 (va4) (ns ++ [cIns 5 i0 x].map (onL l))) := SF11.out.later hb16
          have SF20 := Lib.hid sa15
          clear sa15 hb16
          refine ⟨cond_keep (by decide) (HSW.out _ HB17.out), ?_⟩
          refine wpT_runG (i := 13) (by kernel_rfl) rfl rfl ?_
          go_simp
          refine (alike_c SF18.out SF19.out SF20.out A1.out A2.out (HL.out _) (HL.out _) (fun k _ => A3.out k) (by decide) (by omega) (by simp; omega) (by simp; omega)).mono ?_
          rintro r W21 ⟨rfl, hb23⟩
          have HB22 := Lib.hid (HB17.out.trans (hb23.mono HB17.out.size))
          have SF24 : Hid (Scr W21 (.slice y1 ns.length y2) ns) := SF18.out.later hb23
          refine ⟨cond_keep (by decide) (HSW.out _ HB22.out), ?_⟩
          clear hb23
          refine wpT_takeG (i := 14) (v := ?vm1_14) rfl (by kernel_rfl) (fun _ _ _ h => h) rfl ?ym1_14 ?rm1_14
          case ym1_14 => ((intro wz; go_simp); try with_reducible rfl)
          try simp only [Act.put, List.setIfInBounds_toArray, List.set_cons_zero, List.set_cons_succ]
          refine wpT_takeG (i := 15) (v := ?vm1_15) rfl (by kernel_rfl) (fun _ _ _ h => h) rfl ?ym1_15 ?rm1_15
          case ym1_15 => ((intro wz; go_simp); try with_reducible rfl)
          try simp only [Act.put, List.setIfInBounds_toArray, List.set_cons_zero, List.set_cons_succ]
          refine wpT_loadG (i := 16) (v := ?vm1_16) rfl (by kernel_rfl) (fun _ _ _ h => h) rfl ?ym1_16 (HSW.out _ HB22.out) ?rm1_16
          case ym1_16 => ((intro wz hSw; (try dsimp only at hSw); go_split_ands; go_simp); try with_reducible rfl)
          try simp only [Act.put, List.setIfInBounds_toArray, List.set_cons_zero, List.set_cons_succ]
          refine wpT_loadG (i := 17) (v := ?vm1_17) rfl (by kernel_rfl) (fun _ _ _ h => h) rfl ?ym1_17 (HSW.out _ HB22.out) ?rm1_17
          case ym1_17 => ((intro wz hSw; (try dsimp only at hSw); go_split_ands; go_simp); try with_reducible rfl)
          try simp only [Act.put, List.setIfInBounds_toArray, List.set_cons_zero, List.set_cons_succ]
          refine wpT_takeG (i := 18) (v := ?vm1_18) rfl (by kernel_rfl) (fun _ _ _ h => h) rfl ?ym1_18 ?rm1_18
          case ym1_18 => ((intro wz; go_simp); try with_reducible rfl)
          try simp only [Act.put, List.setIfInBounds_toArray, List.set_cons_zero, List.set_cons_succ]
          refine wpT_loadG (i := 19) (v := ?vm1_19) rfl (by kernel_rfl) (fun _ _ _ h => h) rfl ?ym1_19 (HSW.out _ HB22.out) ?rm1_19
          case ym1_19 => ((intro wz hSw; (try dsimp only at hSw); go_split_ands; go_simp); try with_reducible rfl)
          try simp only [Act.put, List.setIfInBounds_toArray, List.set_cons_zero, List.set_cons_succ]
          refine wpT_takeG (i := 20) (v := ?vm1_20) rfl (by kernel_rfl) (fun _ _ _ h => h) rfl ?ym1_20 ?rm1_20
          case ym1_20 => ((intro wz; go_simp); try with_reducible rfl)
          try simp only [Act.put, List.setIfInBounds_toArray, List.set_cons_zero, List.set_cons_succ]
          refine wpT_loadG (i := 23) (v := ?vm1_23) rfl (by kernel_rfl) (fun _ _ _ h => h) rfl ?ym1_23 (HSW.out _ HB22.out) ?rm1_23
          case ym1_23 => ((intro wz hSw; (try dsimp only at hSw); go_split_ands; go_simp); try with_reducible rfl)
          try simp only [Act.put, List.setIfInBounds_toArray, List.set_cons_zero, List.set_cons_succ]
          refine wpT_loadG (i := 24) (v := ?vm1_24) rfl (by kernel_rfl) (fun _ _ _ h => h) rfl ?ym1_24 (HSW.out _ HB22.out) ?rm1_24
          case ym1_24 => ((intro wz hSw; (try dsimp only at hSw); go_split_ands; go_simp); try with_reducible rfl)
          try simp only [Act.put, List.setIfInBounds_toArray, List.set_cons_zero, List.set_cons_succ]
          refine wpT_takeG (i := 25) (v := ?vm1_25) rfl (by kernel_rfl) (fun _ _ _ h => h) rfl ?ym1_25 ?rm1_25
          case ym1_25 => ((intro wz; go_simp); try with_reducible rfl)
          try simp only [Act.put, List.setIfInBounds_toArray, List.set_cons_zero, List.set_cons_succ]
          refine wpT_two (i := 21) (j := 26) (by kernel_rfl) rfl rfl rfl rfl ?_ ?_
          · go_simp
            have SF25 : Hid (Scr (W21.alloc (.cells #[.int .i64 6, .int .i64 0, .int .i64 0, .int .i64 0, .int .i64 i1, .int .i64 x.kind, .int .i64 x.n, .string x.s] 29)) (.slice y1 ns.length y2) ns) := SF24.out.later (below1 _ _)
            have SF26 : Hid (Scr (W21.alloc (.cells #[.int .i64 6, .int .i64 0, .int .i64 0, .int .i64 0, .int .i64 i1, .int .i64 x.kind, .int .i64 x.n, .string x.s] 29)) (.slice (some ⟨W21.heap.size, 0, none⟩) 1 1) [cIns 6 i1 x]) := scr_lit W21 [cIns 6 i1 x] 29 (W21.heap.size) 1 (by simp) rfl (by simp [cIns]; exact XO.out)
            refine ⟨cond_keep (by decide) (HSW.out _ (HB22.out.trans ((below1 W21 _).mono HB22.out.size))), ?_⟩
            refine wpT_two (i := 22) (j := 26) (by kernel_rfl) rfl rfl rfl rfl ?_ ?_
            · go_simp
              refine (with_c (ns := ns) (cl := [cIns 6 i1 x]) (l := l) SF25.out SF26.out ⟨_, _, _, rfl⟩ (by simp; omega)).mono ?_
              rintro r W27 ⟨va28, rfl, sa29, hb30⟩
              have HB31 := Lib.hid ((HB22.out.trans ((below1 W21 _).mono HB22.out.size)).trans (hb30.mono ((HB22.out.trans ((below1 W21 _).mono HB22.out.size))).size))
              have SF32 : Hid (Scr W27 (.slice y1 ns.length y2) ns) := SF25.out.later hb30
              have SF33 := Lib.hid sa29
              clear sa29 hb30
              refine ⟨cond_keep (by decide) (HSW.out _ HB31.out), ?_⟩
              refine wpT_runG (i := 26) (by kernel_rfl) rfl rfl ?_
              go_simp
              have SF34 : Hid (Scr (W27.alloc (.cells #[.int .i64 4, .int .i64 0, .int .i64 0, .int .i64 0, .int .i64 0, .int .i64 x.kind, .int .i64 x.n, .string x.s] 29)) (.slice y1 ns.length y2) ns) := SF32.out.later (below1 _ _)
              have SF35 : Hid (Scr (W27.alloc (.cells #[.int .i64 4, .int .i64 0, .int .i64 0, .int .i64 0, .int .i64 0, .int .i64 x.kind, .int .i64 x.n, .string x.s] 29)) (va28) (ns ++ [cIns 6 i1 x].map (onL l))) := SF33.out.later (below1 _ _)
              have SF36 : Hid (Scr (W27.alloc (.cells #[.int .i64 4, .int .i64 0, .int .i64 0, .int .i64 0, .int .i64 0, .int .i64 x.kind, .int .i64 x.n, .string x.s] 29)) (.slice (some ⟨W27.heap.size, 0, none⟩) 1 1) [cIns 4 0 x]) := scr_lit W27 [cIns 4 0 x] 29 (W27.heap.size) 1 (by simp) rfl (by simp [cIns]; exact XO.out)
              refine ⟨cond_keep (by decide) (HSW.out _ (HB31.out.trans ((below1 W27 _).mono HB31.out.size))), ?_⟩
              refine wpT_runG (i := 27) (by kernel_rfl) rfl rfl ?_
              go_simp
              refine (with_c (ns := ns) (cl := [cIns 4 0 x]) (l := l) SF34.out SF36.out ⟨_, _, _, rfl⟩ (by simp; omega)).mono ?_
              rintro r W37 ⟨va38, rfl, sa39, hb40⟩
              have HB41 := Lib.hid ((HB31.out.trans ((below1 W27 _).mono HB31.out.size)).trans (hb40.mono ((HB31.out.trans ((below1 W27 _).mono HB31.out.size))).size))
              have SF42 : Hid (Scr W37 (.slice y1 ns.length y2) ns) := SF34.out.later hb40
              have SF43 : Hid (Scr W37 (va28) (ns ++ [cIns 6 i1 x].map (onL l))) := SF35.out.later hb40
              have SF44 := Lib.hid sa39
              clear sa39 hb40
              refine ⟨cond_keep (by decide) (HSW.out _ HB41.out), ?_⟩
              refine wpT_runG (i := 28) (by kernel_rfl) rfl rfl ?_
              go_simp
              refine (alike_c SF42.out SF43.out SF44.out D1.out D2.out (HL.out _) (HL.out _) (fun k _ => D3.out k) (by decide) (by omega) (by simp; omega) (by simp; omega)).mono ?_
              rintro r wf ⟨rfl, hbf⟩
              refine ⟨cond_keep (by decide) (HSW.out _ (HB41.out.trans (hbf.mono HB41.out.size))), ?_⟩
              have BF := Lib.hid (B3.out.trans ((HB41.out.trans (hbf.mono HB41.out.size)).mono B3.out.size))
              clear hbf
              refine wpT_takeG (i := 29) (v := ?vz1_29) rfl (by kernel_rfl) (fun _ _ _ h => h) rfl ?yz1_29 ?rz1_29
              case yz1_29 => ((intro wz; go_simp); try with_reducible rfl)
              try simp only [Act.put, List.setIfInBounds_toArray, List.set_cons_zero, List.set_cons_succ]
              refine wpT_takeG (i := 30) (v := ?vz1_30) rfl (by kernel_rfl) (fun _ _ _ h => h) rfl ?yz1_30 ?rz1_30
              case yz1_30 => ((intro wz; go_simp); try with_reducible rfl)
              try simp only [Act.put, List.setIfInBounds_toArray, List.set_cons_zero, List.set_cons_succ]
              refine wpT_done (by kernel_rfl) ?_ _
              go_wp2
              go_ret
              exact ⟨rfl, BF.out⟩
            · go_simp
              have SF45 : Hid (Scr ((W21.alloc (.cells #[.int .i64 6, .int .i64 0, .int .i64 0, .int .i64 0, .int .i64 i1, .int .i64 x.kind, .int .i64 x.n, .string x.s] 29)).alloc (.cells #[.int .i64 4, .int .i64 0, .int .i64 0, .int .i64 0, .int .i64 0, .int .i64 x.kind, .int .i64 x.n, .string x.s] 29)) (.slice y1 ns.length y2) ns) := SF25.out.later (below1 _ _)
              have SF46 : Hid (Scr ((W21.alloc (.cells #[.int .i64 6, .int .i64 0, .int .i64 0, .int .i64 0, .int .i64 i1, .int .i64 x.kind, .int .i64 x.n, .string x.s] 29)).alloc (.cells #[.int .i64 4, .int .i64 0, .int .i64 0, .int .i64 0, .int .i64 0, .int .i64 x.kind, .int .i64 x.n, .string x.s] 29)) (.slice (some ⟨W21.heap.size, 0, none⟩) 1 1) [cIns 6 i1 x]) := SF26.out.later (below1 _ _)
              have SF47 : Hid (Scr ((W21.alloc (.cells #[.int .i64 6, .int .i64 0, .int .i64 0, .int .i64 0, .int .i64 i1, .int .i64 x.kind, .int .i64 x.n, .string x.s] 29)).alloc (.cells #[.int .i64 4, .int .i64 0, .int .i64 0, .int .i64 0, .int .i64 0, .int .i64 x.kind, .int .i64 x.n, .string x.s] 29)) (.slice (some ⟨W21.heap.size + 1, 0, none⟩) 1 1) [cIns 4 0 x]) := scr_lit (W21.alloc (.cells #[.int .i64 6, .int .i64 0, .int .i64 0, .int .i64 0, .int .i64 i1, .int .i64 x.kind, .int .i64 x.n, .string x.s] 29)) [cIns 4 0 x] 29 (W21.heap.size + 1) 1 (by simp) rfl (by simp [cIns]; exact XO.out)
              refine ⟨cond_keep (by decide) (HSW.out _ (HB22.out.trans ((below2 W21 _ _).mono HB22.out.size))), ?_⟩
              refine wpT_runG (i := 22) (by kernel_rfl) rfl rfl ?_
              go_simp
              refine (with_c (ns := ns) (cl := [cIns 6 i1 x]) (l := l) SF45.out SF46.out ⟨_, _, _, rfl⟩ (by simp; omega)).mono ?_
              rintro r W48 ⟨va49, rfl, sa50, hb51⟩
              have HB52 := Lib.hid ((HB22.out.trans ((below2 W21 _ _).mono HB22.out.size)).trans (hb51.mono ((HB22.out.trans ((below2 W21 _ _).mono HB22.out.size))).size))
              have SF53 : Hid (Scr W48 (.slice y1 ns.length y2) ns) := SF45.out.later hb51
              have SF54 : Hid (Scr W48 (.slice (some ⟨W21.heap.size + 1, 0, none⟩) 1 1) [cIns 4 0 x]) := SF47.out.later hb51
              have SF55 := Lib.hid sa50
              clear sa50 hb51
              refine ⟨cond_keep (by decide) (HSW.out _ HB52.out), ?_⟩
              refine wpT_runG (i := 27) (by kernel_rfl) rfl rfl ?_
              go_simp
              refine (with_c (ns := ns) (cl := [cIns 4 0 x]) (l := l) SF53.out SF54.out ⟨_, _, _, rfl⟩ (by simp; omega)).mono ?_
              rintro r W56 ⟨va57, rfl, sa58, hb59⟩
              have HB60 := Lib.hid ((HB52.out.trans ((Below.refl _ W48).mono HB52.out.size)).trans (hb59.mono ((HB52.out.trans ((Below.refl _ W48).mono HB52.out.size))).size))
              have SF61 : Hid (Scr W56 (.slice y1 ns.length y2) ns) := SF53.out.later hb59
              have SF62 : Hid (Scr W56 (va49) (ns ++ [cIns 6 i1 x].map (onL l))) := SF55.out.later hb59
              have SF63 := Lib.hid sa58
              clear sa58 hb59
              refine ⟨cond_keep (by decide) (HSW.out _ HB60.out), ?_⟩
              refine wpT_runG (i := 28) (by kernel_rfl) rfl rfl ?_
              go_simp
              refine (alike_c SF61.out SF62.out SF63.out D1.out D2.out (HL.out _) (HL.out _) (fun k _ => D3.out k) (by decide) (by omega) (by simp; omega) (by simp; omega)).mono ?_
              rintro r wf ⟨rfl, hbf⟩
              refine ⟨cond_keep (by decide) (HSW.out _ (HB60.out.trans (hbf.mono HB60.out.size))), ?_⟩
              have BF := Lib.hid (B3.out.trans ((HB60.out.trans (hbf.mono HB60.out.size)).mono B3.out.size))
              clear hbf
              refine wpT_takeG (i := 29) (v := ?vz2_29) rfl (by kernel_rfl) (fun _ _ _ h => h) rfl ?yz2_29 ?rz2_29
              case yz2_29 => ((intro wz; go_simp); try with_reducible rfl)
              try simp only [Act.put, List.setIfInBounds_toArray, List.set_cons_zero, List.set_cons_succ]
              refine wpT_takeG (i := 30) (v := ?vz2_30) rfl (by kernel_rfl) (fun _ _ _ h => h) rfl ?yz2_30 ?rz2_30
              case yz2_30 => ((intro wz; go_simp); try with_reducible rfl)
              try simp only [Act.put, List.setIfInBounds_toArray, List.set_cons_zero, List.set_cons_succ]
              refine wpT_done (by kernel_rfl) ?_ _
              go_wp2
              go_ret
              exact ⟨rfl, BF.out⟩
          · go_simp
            have SF64 : Hid (Scr (W21.alloc (.cells #[.int .i64 4, .int .i64 0, .int .i64 0, .int .i64 0, .int .i64 0, .int .i64 x.kind, .int .i64 x.n, .string x.s] 29)) (.slice y1 ns.length y2) ns) := SF24.out.later (below1 _ _)
            have SF65 : Hid (Scr (W21.alloc (.cells #[.int .i64 4, .int .i64 0, .int .i64 0, .int .i64 0, .int .i64 0, .int .i64 x.kind, .int .i64 x.n, .string x.s] 29)) (.slice (some ⟨W21.heap.size, 0, none⟩) 1 1) [cIns 4 0 x]) := scr_lit W21 [cIns 4 0 x] 29 (W21.heap.size) 1 (by simp) rfl (by simp [cIns]; exact XO.out)
            refine ⟨cond_keep (by decide) (HSW.out _ (HB22.out.trans ((below1 W21 _).mono HB22.out.size))), ?_⟩
            refine wpT_runG (i := 21) (by kernel_rfl) rfl rfl ?_
            go_simp
            have SF66 : Hid (Scr ((W21.alloc (.cells #[.int .i64 4, .int .i64 0, .int .i64 0, .int .i64 0, .int .i64 0, .int .i64 x.kind, .int .i64 x.n, .string x.s] 29)).alloc (.cells #[.int .i64 6, .int .i64 0, .int .i64 0, .int .i64 0, .int .i64 i1, .int .i64 x.kind, .int .i64 x.n, .string x.s] 29)) (.slice y1 ns.length y2) ns) := SF64.out.later (below1 _ _)
            have SF67 : Hid (Scr ((W21.alloc (.cells #[.int .i64 4, .int .i64 0, .int .i64 0, .int .i64 0, .int .i64 0, .int .i64 x.kind, .int .i64 x.n, .string x.s] 29)).alloc (.cells #[.int .i64 6, .int .i64 0, .int .i64 0, .int .i64 0, .int .i64 i1, .int .i64 x.kind, .int .i64 x.n, .string x.s] 29)) (.slice (some ⟨W21.heap.size, 0, none⟩) 1 1) [cIns 4 0 x]) := SF65.out.later (below1 _ _)
            have SF68 : Hid (Scr ((W21.alloc (.cells #[.int .i64 4, .int .i64 0, .int .i64 0, .int .i64 0, .int .i64 0, .int .i64 x.kind, .int .i64 x.n, .string x.s] 29)).alloc (.cells #[.int .i64 6, .int .i64 0, .int .i64 0, .int .i64 0, .int .i64 i1, .int .i64 x.kind, .int .i64 x.n, .string x.s] 29)) (.slice (some ⟨W21.heap.size + 1, 0, none⟩) 1 1) [cIns 6 i1 x]) := scr_lit (W21.alloc (.cells #[.int .i64 4, .int .i64 0, .int .i64 0, .int .i64 0, .int .i64 0, .int .i64 x.kind, .int .i64 x.n, .string x.s] 29)) [cIns 6 i1 x] 29 (W21.heap.size + 1) 1 (by simp) rfl (by simp [cIns]; exact XO.out)
            refine ⟨cond_keep (by decide) (HSW.out _ (HB22.out.trans ((below2 W21 _ _).mono HB22.out.size))), ?_⟩
            refine wpT_runG (i := 22) (by kernel_rfl) rfl rfl ?_
            go_simp
            refine (with_c (ns := ns) (cl := [cIns 6 i1 x]) (l := l) SF66.out SF68.out ⟨_, _, _, rfl⟩ (by simp; omega)).mono ?_
            rintro r W69 ⟨va70, rfl, sa71, hb72⟩
            have HB73 := Lib.hid ((HB22.out.trans ((below2 W21 _ _).mono HB22.out.size)).trans (hb72.mono ((HB22.out.trans ((below2 W21 _ _).mono HB22.out.size))).size))
            have SF74 : Hid (Scr W69 (.slice y1 ns.length y2) ns) := SF66.out.later hb72
            have SF75 : Hid (Scr W69 (.slice (some ⟨W21.heap.size, 0, none⟩) 1 1) [cIns 4 0 x]) := SF67.out.later hb72
            have SF76 := Lib.hid sa71
            clear sa71 hb72
            refine ⟨cond_keep (by decide) (HSW.out _ HB73.out), ?_⟩
            refine wpT_runG (i := 27) (by kernel_rfl) rfl rfl ?_
            go_simp
            refine (with_c (ns := ns) (cl := [cIns 4 0 x]) (l := l) SF74.out SF75.out ⟨_, _, _, rfl⟩ (by simp; omega)).mono ?_
            rintro r W77 ⟨va78, rfl, sa79, hb80⟩
            have HB81 := Lib.hid ((HB73.out.trans ((Below.refl _ W69).mono HB73.out.size)).trans (hb80.mono ((HB73.out.trans ((Below.refl _ W69).mono HB73.out.size))).size))
            have SF82 : Hid (Scr W77 (.slice y1 ns.length y2) ns) := SF74.out.later hb80
            have SF83 : Hid (Scr W77 (va70) (ns ++ [cIns 6 i1 x].map (onL l))) := SF76.out.later hb80
            have SF84 := Lib.hid sa79
            clear sa79 hb80
            refine ⟨cond_keep (by decide) (HSW.out _ HB81.out), ?_⟩
            refine wpT_runG (i := 28) (by kernel_rfl) rfl rfl ?_
            go_simp
            refine (alike_c SF82.out SF83.out SF84.out D1.out D2.out (HL.out _) (HL.out _) (fun k _ => D3.out k) (by decide) (by omega) (by simp; omega) (by simp; omega)).mono ?_
            rintro r wf ⟨rfl, hbf⟩
            refine ⟨cond_keep (by decide) (HSW.out _ (HB81.out.trans (hbf.mono HB81.out.size))), ?_⟩
            have BF := Lib.hid (B3.out.trans ((HB81.out.trans (hbf.mono HB81.out.size)).mono B3.out.size))
            clear hbf
            refine wpT_takeG (i := 29) (v := ?vz3_29) rfl (by kernel_rfl) (fun _ _ _ h => h) rfl ?yz3_29 ?rz3_29
            case yz3_29 => ((intro wz; go_simp); try with_reducible rfl)
            try simp only [Act.put, List.setIfInBounds_toArray, List.set_cons_zero, List.set_cons_succ]
            refine wpT_takeG (i := 30) (v := ?vz3_30) rfl (by kernel_rfl) (fun _ _ _ h => h) rfl ?yz3_30 ?rz3_30
            case yz3_30 => ((intro wz; go_simp); try with_reducible rfl)
            try simp only [Act.put, List.setIfInBounds_toArray, List.set_cons_zero, List.set_cons_succ]
            refine wpT_done (by kernel_rfl) ?_ _
            go_wp2
            go_ret
            exact ⟨rfl, BF.out⟩
        · go_simp
          have SF85 : Hid (Scr ((w3.alloc (.cells #[.int .i64 5, .int .i64 0, .int .i64 0, .int .i64 0, .int .i64 i0, .int .i64 x.kind, .int .i64 x.n, .string x.s] 29)).alloc (.cells #[.int .i64 3, .int .i64 0, .int .i64 0, .int .i64 0, .int .i64 0, .int .i64 x.kind, .int .i64 x.n, .string x.s] 29)) (.slice y1 ns.length y2) ns) := SF1.out.later (below1 _ _)
          have SF86 : Hid (Scr ((w3.alloc (.cells #[.int .i64 5, .int .i64 0, .int .i64 0, .int .i64 0, .int .i64 i0, .int .i64 x.kind, .int .i64 x.n, .string x.s] 29)).alloc (.cells #[.int .i64 3, .int .i64 0, .int .i64 0, .int .i64 0, .int .i64 0, .int .i64 x.kind, .int .i64 x.n, .string x.s] 29)) (.slice (some ⟨w3.heap.size, 0, none⟩) 1 1) [cIns 5 i0 x]) := SF2.out.later (below1 _ _)
          have SF87 : Hid (Scr ((w3.alloc (.cells #[.int .i64 5, .int .i64 0, .int .i64 0, .int .i64 0, .int .i64 i0, .int .i64 x.kind, .int .i64 x.n, .string x.s] 29)).alloc (.cells #[.int .i64 3, .int .i64 0, .int .i64 0, .int .i64 0, .int .i64 0, .int .i64 x.kind, .int .i64 x.n, .string x.s] 29)) (.slice (some ⟨w3.heap.size + 1, 0, none⟩) 1 1) [cIns 3 0 x]) := scr_lit (w3.alloc (.cells #[.int .i64 5, .int .i64 0, .int .i64 0, .int .i64 0, .int .i64 i0, .int .i64 x.kind, .int .i64 x.n, .string x.s] 29)) [cIns 3 0 x] 29 (w3.heap.size + 1) 1 (by simp) rfl (by simp [cIns]; exact XO.out)
          refine ⟨cond_keep (by decide) (HSW.out _ (HB0.out.trans ((below2 w3 _ _).mono HB0.out.size))), ?_⟩
          refine wpT_runG (i := 7) (by kernel_rfl) rfl rfl ?_
          go_simp
          refine (with_c (ns := ns) (cl := [cIns 5 i0 x]) (l := l) SF85.out SF86.out ⟨_, _, _, rfl⟩ (by simp; omega)).mono ?_
          rintro r W88 ⟨va89, rfl, sa90, hb91⟩
          have HB92 := Lib.hid ((HB0.out.trans ((below2 w3 _ _).mono HB0.out.size)).trans (hb91.mono ((HB0.out.trans ((below2 w3 _ _).mono HB0.out.size))).size))
          have SF93 : Hid (Scr W88 (.slice y1 ns.length y2) ns) := SF85.out.later hb91
          have SF94 : Hid (Scr W88 (.slice (some ⟨w3.heap.size + 1, 0, none⟩) 1 1) [cIns 3 0 x]) := SF87.out.later hb91
          have SF95 := Lib.hid sa90
          clear sa90 hb91
          refine ⟨cond_keep (by decide) (HSW.out _ HB92.out), ?_⟩
          refine wpT_runG (i := 12) (by kernel_rfl) rfl rfl ?_
          go_simp
          refine (with_c (ns := ns) (cl := [cIns 3 0 x]) (l := l) SF93.out SF94.out ⟨_, _, _, rfl⟩ (by simp; omega)).mono ?_
          rintro r W96 ⟨va97, rfl, sa98, hb99⟩
          have HB100 := Lib.hid ((HB92.out.trans ((Below.refl _ W88).mono HB92.out.size)).trans (hb99.mono ((HB92.out.trans ((Below.refl _ W88).mono HB92.out.size))).size))
          have SF101 : Hid (Scr W96 (.slice y1 ns.length y2) ns) := SF93.out.later hb99
          have SF102 : Hid (Scr W96 (va89) (ns ++ [cIns 5 i0 x].map (onL l))) := SF95.out.later hb99
          have SF103 := Lib.hid sa98
          clear sa98 hb99
          refine ⟨cond_keep (by decide) (HSW.out _ HB100.out), ?_⟩
          refine wpT_runG (i := 13) (by kernel_rfl) rfl rfl ?_
          go_simp
          refine (alike_c SF101.out SF102.out SF103.out A1.out A2.out (HL.out _) (HL.out _) (fun k _ => A3.out k) (by decide) (by omega) (by simp; omega) (by simp; omega)).mono ?_
          rintro r W104 ⟨rfl, hb106⟩
          have HB105 := Lib.hid (HB100.out.trans (hb106.mono HB100.out.size))
          have SF107 : Hid (Scr W104 (.slice y1 ns.length y2) ns) := SF101.out.later hb106
          refine ⟨cond_keep (by decide) (HSW.out _ HB105.out), ?_⟩
          clear hb106
          refine wpT_takeG (i := 14) (v := ?vm2_14) rfl (by kernel_rfl) (fun _ _ _ h => h) rfl ?ym2_14 ?rm2_14
          case ym2_14 => ((intro wz; go_simp); try with_reducible rfl)
          try simp only [Act.put, List.setIfInBounds_toArray, List.set_cons_zero, List.set_cons_succ]
          refine wpT_takeG (i := 15) (v := ?vm2_15) rfl (by kernel_rfl) (fun _ _ _ h => h) rfl ?ym2_15 ?rm2_15
          case ym2_15 => ((intro wz; go_simp); try with_reducible rfl)
          try simp only [Act.put, List.setIfInBounds_toArray, List.set_cons_zero, List.set_cons_succ]
          refine wpT_loadG (i := 16) (v := ?vm2_16) rfl (by kernel_rfl) (fun _ _ _ h => h) rfl ?ym2_16 (HSW.out _ HB105.out) ?rm2_16
          case ym2_16 => ((intro wz hSw; (try dsimp only at hSw); go_split_ands; go_simp); try with_reducible rfl)
          try simp only [Act.put, List.setIfInBounds_toArray, List.set_cons_zero, List.set_cons_succ]
          refine wpT_loadG (i := 17) (v := ?vm2_17) rfl (by kernel_rfl) (fun _ _ _ h => h) rfl ?ym2_17 (HSW.out _ HB105.out) ?rm2_17
          case ym2_17 => ((intro wz hSw; (try dsimp only at hSw); go_split_ands; go_simp); try with_reducible rfl)
          try simp only [Act.put, List.setIfInBounds_toArray, List.set_cons_zero, List.set_cons_succ]
          refine wpT_takeG (i := 18) (v := ?vm2_18) rfl (by kernel_rfl) (fun _ _ _ h => h) rfl ?ym2_18 ?rm2_18
          case ym2_18 => ((intro wz; go_simp); try with_reducible rfl)
          try simp only [Act.put, List.setIfInBounds_toArray, List.set_cons_zero, List.set_cons_succ]
          refine wpT_loadG (i := 19) (v := ?vm2_19) rfl (by kernel_rfl) (fun _ _ _ h => h) rfl ?ym2_19 (HSW.out _ HB105.out) ?rm2_19
          case ym2_19 => ((intro wz hSw; (try dsimp only at hSw); go_split_ands; go_simp); try with_reducible rfl)
          try simp only [Act.put, List.setIfInBounds_toArray, List.set_cons_zero, List.set_cons_succ]
          refine wpT_takeG (i := 20) (v := ?vm2_20) rfl (by kernel_rfl) (fun _ _ _ h => h) rfl ?ym2_20 ?rm2_20
          case ym2_20 => ((intro wz; go_simp); try with_reducible rfl)
          try simp only [Act.put, List.setIfInBounds_toArray, List.set_cons_zero, List.set_cons_succ]
          refine wpT_loadG (i := 23) (v := ?vm2_23) rfl (by kernel_rfl) (fun _ _ _ h => h) rfl ?ym2_23 (HSW.out _ HB105.out) ?rm2_23
          case ym2_23 => ((intro wz hSw; (try dsimp only at hSw); go_split_ands; go_simp); try with_reducible rfl)
          try simp only [Act.put, List.setIfInBounds_toArray, List.set_cons_zero, List.set_cons_succ]
          refine wpT_loadG (i := 24) (v := ?vm2_24) rfl (by kernel_rfl) (fun _ _ _ h => h) rfl ?ym2_24 (HSW.out _ HB105.out) ?rm2_24
          case ym2_24 => ((intro wz hSw; (try dsimp only at hSw); go_split_ands; go_simp); try with_reducible rfl)
          try simp only [Act.put, List.setIfInBounds_toArray, List.set_cons_zero, List.set_cons_succ]
          refine wpT_takeG (i := 25) (v := ?vm2_25) rfl (by kernel_rfl) (fun _ _ _ h => h) rfl ?ym2_25 ?rm2_25
          case ym2_25 => ((intro wz; go_simp); try with_reducible rfl)
          try simp only [Act.put, List.setIfInBounds_toArray, List.set_cons_zero, List.set_cons_succ]
          refine wpT_two (i := 21) (j := 26) (by kernel_rfl) rfl rfl rfl rfl ?_ ?_
          · go_simp
            have SF108 : Hid (Scr (W104.alloc (.cells #[.int .i64 6, .int .i64 0, .int .i64 0, .int .i64 0, .int .i64 i1, .int .i64 x.kind, .int .i64 x.n, .string x.s] 29)) (.slice y1 ns.length y2) ns) := SF107.out.later (below1 _ _)
            have SF109 : Hid (Scr (W104.alloc (.cells #[.int .i64 6, .int .i64 0, .int .i64 0, .int .i64 0, .int .i64 i1, .int .i64 x.kind, .int .i64 x.n, .string x.s] 29)) (.slice (some ⟨W104.heap.size, 0, none⟩) 1 1) [cIns 6 i1 x]) := scr_lit W104 [cIns 6 i1 x] 29 (W104.heap.size) 1 (by simp) rfl (by simp [cIns]; exact XO.out)
            refine ⟨cond_keep (by decide) (HSW.out _ (HB105.out.trans ((below1 W104 _).mono HB105.out.size))), ?_⟩
            refine wpT_two (i := 22) (j := 26) (by kernel_rfl) rfl rfl rfl rfl ?_ ?_
            · go_simp
              refine (with_c (ns := ns) (cl := [cIns 6 i1 x]) (l := l) SF108.out SF109.out ⟨_, _, _, rfl⟩ (by simp; omega)).mono ?_
              rintro r W110 ⟨va111, rfl, sa112, hb113⟩
              have HB114 := Lib.hid ((HB105.out.trans ((below1 W104 _).mono HB105.out.size)).trans (hb113.mono ((HB105.out.trans ((below1 W104 _).mono HB105.out.size))).size))
              have SF115 : Hid (Scr W110 (.slice y1 ns.length y2) ns) := SF108.out.later hb113
              have SF116 := Lib.hid sa112
              clear sa112 hb113
              refine ⟨cond_keep (by decide) (HSW.out _ HB114.out), ?_⟩
              refine wpT_runG (i := 26) (by kernel_rfl) rfl rfl ?_
              go_simp
              have SF117 : Hid (Scr (W110.alloc (.cells #[.int .i64 4, .int .i64 0, .int .i64 0, .int .i64 0, .int .i64 0, .int .i64 x.kind, .int .i64 x.n, .string x.s] 29)) (.slice y1 ns.length y2) ns) := SF115.out.later (below1 _ _)
              have SF118 : Hid (Scr (W110.alloc (.cells #[.int .i64 4, .int .i64 0, .int .i64 0, .int .i64 0, .int .i64 0, .int .i64 x.kind, .int .i64 x.n, .string x.s] 29)) (va111) (ns ++ [cIns 6 i1 x].map (onL l))) := SF116.out.later (below1 _ _)
              have SF119 : Hid (Scr (W110.alloc (.cells #[.int .i64 4, .int .i64 0, .int .i64 0, .int .i64 0, .int .i64 0, .int .i64 x.kind, .int .i64 x.n, .string x.s] 29)) (.slice (some ⟨W110.heap.size, 0, none⟩) 1 1) [cIns 4 0 x]) := scr_lit W110 [cIns 4 0 x] 29 (W110.heap.size) 1 (by simp) rfl (by simp [cIns]; exact XO.out)
              refine ⟨cond_keep (by decide) (HSW.out _ (HB114.out.trans ((below1 W110 _).mono HB114.out.size))), ?_⟩
              refine wpT_runG (i := 27) (by kernel_rfl) rfl rfl ?_
              go_simp
              refine (with_c (ns := ns) (cl := [cIns 4 0 x]) (l := l) SF117.out SF119.out ⟨_, _, _, rfl⟩ (by simp; omega)).mono ?_
              rintro r W120 ⟨va121, rfl, sa122, hb123⟩
              have HB124 := Lib.hid ((HB114.out.trans ((below1 W110 _).mono HB114.out.size)).trans (hb123.mono ((HB114.out.trans ((below1 W110 _).mono HB114.out.size))).size))
              have SF125 : Hid (Scr W120 (.slice y1 ns.length y2) ns) := SF117.out.later hb123
              have SF126 : Hid (Scr W120 (va111) (ns ++ [cIns 6 i1 x].map (onL l))) := SF118.out.later hb123
              have SF127 := Lib.hid sa122
              clear sa122 hb123
              refine ⟨cond_keep (by decide) (HSW.out _ HB124.out), ?_⟩
              refine wpT_runG (i := 28) (by kernel_rfl) rfl rfl ?_
              go_simp
              refine (alike_c SF125.out SF126.out SF127.out D1.out D2.out (HL.out _) (HL.out _) (fun k _ => D3.out k) (by decide) (by omega) (by simp; omega) (by simp; omega)).mono ?_
              rintro r wf ⟨rfl, hbf⟩
              refine ⟨cond_keep (by decide) (HSW.out _ (HB124.out.trans (hbf.mono HB124.out.size))), ?_⟩
              have BF := Lib.hid (B3.out.trans ((HB124.out.trans (hbf.mono HB124.out.size)).mono B3.out.size))
              clear hbf
              refine wpT_takeG (i := 29) (v := ?vz4_29) rfl (by kernel_rfl) (fun _ _ _ h => h) rfl ?yz4_29 ?rz4_29
              case yz4_29 => ((intro wz; go_simp); try with_reducible rfl)
              try simp only [Act.put, List.setIfInBounds_toArray, List.set_cons_zero, List.set_cons_succ]
              refine wpT_takeG (i := 30) (v := ?vz4_30) rfl (by kernel_rfl) (fun _ _ _ h => h) rfl ?yz4_30 ?rz4_30
              case yz4_30 => ((intro wz; go_simp); try with_reducible rfl)
              try simp only [Act.put, List.setIfInBounds_toArray, List.set_cons_zero, List.set_cons_succ]
              refine wpT_done (by kernel_rfl) ?_ _
              go_wp2
              go_ret
              exact ⟨rfl, BF.out⟩
            · go_simp
              have SF128 : Hid (Scr ((W104.alloc (.cells #[.int .i64 6, .int .i64 0, .int .i64 0, .int .i64 0, .int .i64 i1, .int .i64 x.kind, .int .i64 x.n, .string x.s] 29)).alloc (.cells #[.int .i64 4, .int .i64 0, .int .i64 0, .int .i64 0, .int .i64 0, .int .i64 x.kind, .int .i64 x.n, .string x.s] 29)) (.slice y1 ns.length y2) ns) := SF108.out.later (below1 _ _)
              have SF129 : Hid (Scr ((W104.alloc (.cells #[.int .i64 6, .int .i64 0, .int .i64 0, .int .i64 0, .int .i64 i1, .int .i64 x.kind, .int .i64 x.n, .string x.s] 29)).alloc (.cells #[.int .i64 4, .int .i64 0, .int .i64 0, .int .i64 0, .int .i64 0, .int .i64 x.kind, .int .i64 x.n, .string x.s] 29)) (.slice (some ⟨W104.heap.size, 0, none⟩) 1 1) [cIns 6 i1 x]) := SF109.out.later (below1 _ _)
              have SF130 : Hid (Scr ((W104.alloc (.cells #[.int .i64 6, .int .i64 0, .int .i64 0, .int .i64 0, .int .i64 i1, .int .i64 x.kind, .int .i64 x.n, .string x.s] 29)).alloc (.cells #[.int .i64 4, .int .i64 0, .int .i64 0, .int .i64 0, .int .i64 0, .int .i64 x.kind, .int .i64 x.n, .string x.s] 29)) (.slice (some ⟨W104.heap.size + 1, 0, none⟩) 1 1) [cIns 4 0 x]) := scr_lit (W104.alloc (.cells #[.int .i64 6, .int .i64 0, .int .i64 0, .int .i64 0, .int .i64 i1, .int .i64 x.kind, .int .i64 x.n, .string x.s] 29)) [cIns 4 0 x] 29 (W104.heap.size + 1) 1 (by simp) rfl (by simp [cIns]; exact XO.out)
              refine ⟨cond_keep (by decide) (HSW.out _ (HB105.out.trans ((below2 W104 _ _).mono HB105.out.size))), ?_⟩
              refine wpT_runG (i := 22) (by kernel_rfl) rfl rfl ?_
              go_simp
              refine (with_c (ns := ns) (cl := [cIns 6 i1 x]) (l := l) SF128.out SF129.out ⟨_, _, _, rfl⟩ (by simp; omega)).mono ?_
              rintro r W131 ⟨va132, rfl, sa133, hb134⟩
              have HB135 := Lib.hid ((HB105.out.trans ((below2 W104 _ _).mono HB105.out.size)).trans (hb134.mono ((HB105.out.trans ((below2 W104 _ _).mono HB105.out.size))).size))
              have SF136 : Hid (Scr W131 (.slice y1 ns.length y2) ns) := SF128.out.later hb134
              have SF137 : Hid (Scr W131 (.slice (some ⟨W104.heap.size + 1, 0, none⟩) 1 1) [cIns 4 0 x]) := SF130.out.later hb134
              have SF138 := Lib.hid sa133
              clear sa133 hb134
              refine ⟨cond_keep (by decide) (HSW.out _ HB135.out), ?_⟩
              refine wpT_runG (i := 27) (by kernel_rfl) rfl rfl ?_
              go_simp
              refine (with_c (ns := ns) (cl := [cIns 4 0 x]) (l := l) SF136.out SF137.out ⟨_, _, _, rfl⟩ (by simp; omega)).mono ?_
              rintro r W139 ⟨va140, rfl, sa141, hb142⟩
              have HB143 := Lib.hid ((HB135.out.trans ((Below.refl _ W131).mono HB135.out.size)).trans (hb142.mono ((HB135.out.trans ((Below.refl _ W131).mono HB135.out.size))).size))
              have SF144 : Hid (Scr W139 (.slice y1 ns.length y2) ns) := SF136.out.later hb142
              have SF145 : Hid (Scr W139 (va132) (ns ++ [cIns 6 i1 x].map (onL l))) := SF138.out.later hb142
              have SF146 := Lib.hid sa141
              clear sa141 hb142
              refine ⟨cond_keep (by decide) (HSW.out _ HB143.out), ?_⟩
              refine wpT_runG (i := 28) (by kernel_rfl) rfl rfl ?_
              go_simp
              refine (alike_c SF144.out SF145.out SF146.out D1.out D2.out (HL.out _) (HL.out _) (fun k _ => D3.out k) (by decide) (by omega) (by simp; omega) (by simp; omega)).mono ?_
              rintro r wf ⟨rfl, hbf⟩
              refine ⟨cond_keep (by decide) (HSW.out _ (HB143.out.trans (hbf.mono HB143.out.size))), ?_⟩
              have BF := Lib.hid (B3.out.trans ((HB143.out.trans (hbf.mono HB143.out.size)).mono B3.out.size))
              clear hbf
              refine wpT_takeG (i := 29) (v := ?vz5_29) rfl (by kernel_rfl) (fun _ _ _ h => h) rfl ?yz5_29 ?rz5_29
              case yz5_29 => ((intro wz; go_simp); try with_reducible rfl)
              try simp only [Act.put, List.setIfInBounds_toArray, List.set_cons_zero, List.set_cons_succ]
              refine wpT_takeG (i := 30) (v := ?vz5_30) rfl (by kernel_rfl) (fun _ _ _ h => h) rfl ?yz5_30 ?rz5_30
              case yz5_30 => ((intro wz; go_simp); try with_reducible rfl)
              try simp only [Act.put, List.setIfInBounds_toArray, List.set_cons_zero, List.set_cons_succ]
              refine wpT_done (by kernel_rfl) ?_ _
              go_wp2
              go_ret
              exact ⟨rfl, BF.out⟩
          · go_simp
            have SF147 : Hid (Scr (W104.alloc (.cells #[.int .i64 4, .int .i64 0, .int .i64 0, .int .i64 0, .int .i64 0, .int .i64 x.kind, .int .i64 x.n, .string x.s] 29)) (.slice y1 ns.length y2) ns) := SF107.out.later (below1 _ _)
            have SF148 : Hid (Scr (W104.alloc (.cells #[.int .i64 4, .int .i64 0, .int .i64 0, .int .i64 0, .int .i64 0, .int .i64 x.kind, .int .i64 x.n, .string x.s] 29)) (.slice (some ⟨W104.heap.size, 0, none⟩) 1 1) [cIns 4 0 x]) := scr_lit W104 [cIns 4 0 x] 29 (W104.heap.size) 1 (by simp) rfl (by simp [cIns]; exact XO.out)
            refine ⟨cond_keep (by decide) (HSW.out _ (HB105.out.trans ((below1 W104 _).mono HB105.out.size))), ?_⟩
            refine wpT_runG (i := 21) (by kernel_rfl) rfl rfl ?_
            go_simp
            have SF149 : Hid (Scr ((W104.alloc (.cells #[.int .i64 4, .int .i64 0, .int .i64 0, .int .i64 0, .int .i64 0, .int .i64 x.kind, .int .i64 x.n, .string x.s] 29)).alloc (.cells #[.int .i64 6, .int .i64 0, .int .i64 0, .int .i64 0, .int .i64 i1, .int .i64 x.kind, .int .i64 x.n, .string x.s] 29)) (.slice y1 ns.length y2) ns) := SF147.out.later (below1 _ _)
            have SF150 : Hid (Scr ((W104.alloc (.cells #[.int .i64 4, .int .i64 0, .int .i64 0, .int .i64 0, .int .i64 0, .int .i64 x.kind, .int .i64 x.n, .string x.s] 29)).alloc (.cells #[.int .i64 6, .int .i64 0, .int .i64 0, .int .i64 0, .int .i64 i1, .int .i64 x.kind, .int .i64 x.n, .string x.s] 29)) (.slice (some ⟨W104.heap.size, 0, none⟩) 1 1) [cIns 4 0 x]) := SF148.out.later (below1 _ _)
            have SF151 : Hid (Scr ((W104.alloc (.cells #[.int .i64 4, .int .i64 0, .int .i64 0, .int .i64 0, .int .i64 0, .int .i64 x.kind, .int .i64 x.n, .string x.s] 29)).alloc (.cells #[.int .i64 6, .int .i64 0, .int .i64 0, .int .i64 0, .int .i64 i1, .int .i64 x.kind, .int .i64 x.n, .string x.s] 29)) (.slice (some ⟨W104.heap.size + 1, 0, none⟩) 1 1) [cIns 6 i1 x]) := scr_lit (W104.alloc (.cells #[.int .i64 4, .int .i64 0, .int .i64 0, .int .i64 0, .int .i64 0, .int .i64 x.kind, .int .i64 x.n, .string x.s] 29)) [cIns 6 i1 x] 29 (W104.heap.size + 1) 1 (by simp) rfl (by simp [cIns]; exact XO.out)
            refine ⟨cond_keep (by decide) (HSW.out _ (HB105.out.trans ((below2 W104 _ _).mono HB105.out.size))), ?_⟩
            refine wpT_runG (i := 22) (by kernel_rfl) rfl rfl ?_
            go_simp
            refine (with_c (ns := ns) (cl := [cIns 6 i1 x]) (l := l) SF149.out SF151.out ⟨_, _, _, rfl⟩ (by simp; omega)).mono ?_
            rintro r W152 ⟨va153, rfl, sa154, hb155⟩
            have HB156 := Lib.hid ((HB105.out.trans ((below2 W104 _ _).mono HB105.out.size)).trans (hb155.mono ((HB105.out.trans ((below2 W104 _ _).mono HB105.out.size))).size))
            have SF157 : Hid (Scr W152 (.slice y1 ns.length y2) ns) := SF149.out.later hb155
            have SF158 : Hid (Scr W152 (.slice (some ⟨W104.heap.size, 0, none⟩) 1 1) [cIns 4 0 x]) := SF150.out.later hb155
            have SF159 := Lib.hid sa154
            clear sa154 hb155
            refine ⟨cond_keep (by decide) (HSW.out _ HB156.out), ?_⟩
            refine wpT_runG (i := 27) (by kernel_rfl) rfl rfl ?_
            go_simp
            refine (with_c (ns := ns) (cl := [cIns 4 0 x]) (l := l) SF157.out SF158.out ⟨_, _, _, rfl⟩ (by simp; omega)).mono ?_
            rintro r W160 ⟨va161, rfl, sa162, hb163⟩
            have HB164 := Lib.hid ((HB156.out.trans ((Below.refl _ W152).mono HB156.out.size)).trans (hb163.mono ((HB156.out.trans ((Below.refl _ W152).mono HB156.out.size))).size))
            have SF165 : Hid (Scr W160 (.slice y1 ns.length y2) ns) := SF157.out.later hb163
            have SF166 : Hid (Scr W160 (va153) (ns ++ [cIns 6 i1 x].map (onL l))) := SF159.out.later hb163
            have SF167 := Lib.hid sa162
            clear sa162 hb163
            refine ⟨cond_keep (by decide) (HSW.out _ HB164.out), ?_⟩
            refine wpT_runG (i := 28) (by kernel_rfl) rfl rfl ?_
            go_simp
            refine (alike_c SF165.out SF166.out SF167.out D1.out D2.out (HL.out _) (HL.out _) (fun k _ => D3.out k) (by decide) (by omega) (by simp; omega) (by simp; omega)).mono ?_
            rintro r wf ⟨rfl, hbf⟩
            refine ⟨cond_keep (by decide) (HSW.out _ (HB164.out.trans (hbf.mono HB164.out.size))), ?_⟩
            have BF := Lib.hid (B3.out.trans ((HB164.out.trans (hbf.mono HB164.out.size)).mono B3.out.size))
            clear hbf
            refine wpT_takeG (i := 29) (v := ?vz6_29) rfl (by kernel_rfl) (fun _ _ _ h => h) rfl ?yz6_29 ?rz6_29
            case yz6_29 => ((intro wz; go_simp); try with_reducible rfl)
            try simp only [Act.put, List.setIfInBounds_toArray, List.set_cons_zero, List.set_cons_succ]
            refine wpT_takeG (i := 30) (v := ?vz6_30) rfl (by kernel_rfl) (fun _ _ _ h => h) rfl ?yz6_30 ?rz6_30
            case yz6_30 => ((intro wz; go_simp); try with_reducible rfl)
            try simp only [Act.put, List.setIfInBounds_toArray, List.set_cons_zero, List.set_cons_succ]
            refine wpT_done (by kernel_rfl) ?_ _
            go_wp2
            go_ret
            exact ⟨rfl, BF.out⟩
      · go_simp
        have SF168 : Hid (Scr (w3.alloc (.cells #[.int .i64 3, .int .i64 0, .int .i64 0, .int .i64 0, .int .i64 0, .int .i64 x.kind, .int .i64 x.n, .string x.s] 29)) (.slice y1 ns.length y2) ns) := S3.out.later (below1 _ _)
        have SF169 : Hid (Scr (w3.alloc (.cells #[.int .i64 3, .int .i64 0, .int .i64 0, .int .i64 0, .int .i64 0, .int .i64 x.kind, .int .i64 x.n, .string x.s] 29)) (.slice (some ⟨w3.heap.size, 0, none⟩) 1 1) [cIns 3 0 x]) := scr_lit w3 [cIns 3 0 x] 29 (w3.heap.size) 1 (by simp) rfl (by simp [cIns]; exact XO.out)
        refine ⟨cond_keep (by decide) (HSW.out _ (HB0.out.trans ((below1 w3 _).mono HB0.out.size))), ?_⟩
        refine wpT_runG (i := 6) (by kernel_rfl) rfl rfl ?_
        go_simp
        have SF170 : Hid (Scr ((w3.alloc (.cells #[.int .i64 3, .int .i64 0, .int .i64 0, .int .i64 0, .int .i64 0, .int .i64 x.kind, .int .i64 x.n, .string x.s] 29)).alloc (.cells #[.int .i64 5, .int .i64 0, .int .i64 0, .int .i64 0, .int .i64 i0, .int .i64 x.kind, .int .i64 x.n, .string x.s] 29)) (.slice y1 ns.length y2) ns) := SF168.out.later (below1 _ _)
        have SF171 : Hid (Scr ((w3.alloc (.cells #[.int .i64 3, .int .i64 0, .int .i64 0, .int .i64 0, .int .i64 0, .int .i64 x.kind, .int .i64 x.n, .string x.s] 29)).alloc (.cells #[.int .i64 5, .int .i64 0, .int .i64 0, .int .i64 0, .int .i64 i0, .int .i64 x.kind, .int .i64 x.n, .string x.s] 29)) (.slice (some ⟨w3.heap.size, 0, none⟩) 1 1) [cIns 3 0 x]) := SF169.out.later (below1 _ _)
        have SF172 : Hid (Scr ((w3.alloc (.cells #[.int .i64 3, .int .i64 0, .int .i64 0, .int .i64 0, .int .i64 0, .int .i64 x.kind, .int .i64 x.n, .string x.s] 29)).alloc (.cells #[.int .i64 5, .int .i64 0, .int .i64 0, .int .i64 0, .int .i64 i0, .int .i64 x.kind, .int .i64 x.n, .string x.s] 29)) (.slice (some ⟨w3.heap.size + 1, 0, none⟩) 1 1) [cIns 5 i0 x]) := scr_lit (w3.alloc (.cells #[.int .i64 3, .int .i64 0, .int .i64 0, .int .i64 0, .int .i64 0, .int .i64 x.kind, .int .i64 x.n, .string x.s] 29)) [cIns 5 i0 x] 29 (w3.heap.size + 1) 1 (by simp) rfl (by simp [cIns]; exact XO.out)
        refine ⟨cond_keep (by decide) (HSW.out _ (HB0.out.trans ((below2 w3 _ _).mono HB0.out.size))), ?_⟩
        refine wpT_runG (i := 7) (by kernel_rfl) rfl rfl ?_
        go_simp
        refine (with_c (ns := ns) (cl := [cIns 5 i0 x]) (l := l) SF170.out SF172.out ⟨_, _, _, rfl⟩ (by simp; omega)).mono ?_
        rintro r W173 ⟨va174, rfl, sa175, hb176⟩
        have HB177 := Lib.hid ((HB0.out.trans ((below2 w3 _ _).mono HB0.out.size)).trans (hb176.mono ((HB0.out.trans ((below2 w3 _ _).mono HB0.out.size))).size))
        have SF178 : Hid (Scr W173 (.slice y1 ns.length y2) ns) := SF170.out.later hb176
        have SF179 : Hid (Scr W173 (.slice (some ⟨w3.heap.size, 0, none⟩) 1 1) [cIns 3 0 x]) := SF171.out.later hb176
        have SF180 := Lib.hid sa175
        clear sa175 hb176
        refine ⟨cond_keep (by decide) (HSW.out _ HB177.out), ?_⟩
        refine wpT_runG (i := 12) (by kernel_rfl) rfl rfl ?_
        go_simp
        refine (with_c (ns := ns) (cl := [cIns 3 0 x]) (l := l) SF178.out SF179.out ⟨_, _, _, rfl⟩ (by simp; omega)).mono ?_
        rintro r W181 ⟨va182, rfl, sa183, hb184⟩
        have HB185 := Lib.hid ((HB177.out.trans ((Below.refl _ W173).mono HB177.out.size)).trans (hb184.mono ((HB177.out.trans ((Below.refl _ W173).mono HB177.out.size))).size))
        have SF186 : Hid (Scr W181 (.slice y1 ns.length y2) ns) := SF178.out.later hb184
        have SF187 : Hid (Scr W181 (va174) (ns ++ [cIns 5 i0 x].map (onL l))) := SF180.out.later hb184
        have SF188 := Lib.hid sa183
        clear sa183 hb184
        refine ⟨cond_keep (by decide) (HSW.out _ HB185.out), ?_⟩
        refine wpT_runG (i := 13) (by kernel_rfl) rfl rfl ?_
        go_simp
        refine (alike_c SF186.out SF187.out SF188.out A1.out A2.out (HL.out _) (HL.out _) (fun k _ => A3.out k) (by decide) (by omega) (by simp; omega) (by simp; omega)).mono ?_
        rintro r W189 ⟨rfl, hb191⟩
        have HB190 := Lib.hid (HB185.out.trans (hb191.mono HB185.out.size))
        have SF192 : Hid (Scr W189 (.slice y1 ns.length y2) ns) := SF186.out.later hb191
        refine ⟨cond_keep (by decide) (HSW.out _ HB190.out), ?_⟩
        clear hb191
        refine wpT_takeG (i := 14) (v := ?vm3_14) rfl (by kernel_rfl) (fun _ _ _ h => h) rfl ?ym3_14 ?rm3_14
        case ym3_14 => ((intro wz; go_simp); try with_reducible rfl)
        try simp only [Act.put, List.setIfInBounds_toArray, List.set_cons_zero, List.set_cons_succ]
        refine wpT_takeG (i := 15) (v := ?vm3_15) rfl (by kernel_rfl) (fun _ _ _ h => h) rfl ?ym3_15 ?rm3_15
        case ym3_15 => ((intro wz; go_simp); try with_reducible rfl)
        try simp only [Act.put, List.setIfInBounds_toArray, List.set_cons_zero, List.set_cons_succ]
        refine wpT_loadG (i := 16) (v := ?vm3_16) rfl (by kernel_rfl) (fun _ _ _ h => h) rfl ?ym3_16 (HSW.out _ HB190.out) ?rm3_16
        case ym3_16 => ((intro wz hSw; (try dsimp only at hSw); go_split_ands; go_simp); try with_reducible rfl)
        try simp only [Act.put, List.setIfInBounds_toArray, List.set_cons_zero, List.set_cons_succ]
        refine wpT_loadG (i := 17) (v := ?vm3_17) rfl (by kernel_rfl) (fun _ _ _ h => h) rfl ?ym3_17 (HSW.out _ HB190.out) ?rm3_17
        case ym3_17 => ((intro wz hSw; (try dsimp only at hSw); go_split_ands; go_simp); try with_reducible rfl)
        try simp only [Act.put, List.setIfInBounds_toArray, List.set_cons_zero, List.set_cons_succ]
        refine wpT_takeG (i := 18) (v := ?vm3_18) rfl (by kernel_rfl) (fun _ _ _ h => h) rfl ?ym3_18 ?rm3_18
        case ym3_18 => ((intro wz; go_simp); try with_reducible rfl)
        try simp only [Act.put, List.setIfInBounds_toArray, List.set_cons_zero, List.set_cons_succ]
        refine wpT_loadG (i := 19) (v := ?vm3_19) rfl (by kernel_rfl) (fun _ _ _ h => h) rfl ?ym3_19 (HSW.out _ HB190.out) ?rm3_19
        case ym3_19 => ((intro wz hSw; (try dsimp only at hSw); go_split_ands; go_simp); try with_reducible rfl)
        try simp only [Act.put, List.setIfInBounds_toArray, List.set_cons_zero, List.set_cons_succ]
        refine wpT_takeG (i := 20) (v := ?vm3_20) rfl (by kernel_rfl) (fun _ _ _ h => h) rfl ?ym3_20 ?rm3_20
        case ym3_20 => ((intro wz; go_simp); try with_reducible rfl)
        try simp only [Act.put, List.setIfInBounds_toArray, List.set_cons_zero, List.set_cons_succ]
        refine wpT_loadG (i := 23) (v := ?vm3_23) rfl (by kernel_rfl) (fun _ _ _ h => h) rfl ?ym3_23 (HSW.out _ HB190.out) ?rm3_23
        case ym3_23 => ((intro wz hSw; (try dsimp only at hSw); go_split_ands; go_simp); try with_reducible rfl)
        try simp only [Act.put, List.setIfInBounds_toArray, List.set_cons_zero, List.set_cons_succ]
        refine wpT_loadG (i := 24) (v := ?vm3_24) rfl (by kernel_rfl) (fun _ _ _ h => h) rfl ?ym3_24 (HSW.out _ HB190.out) ?rm3_24
        case ym3_24 => ((intro wz hSw; (try dsimp only at hSw); go_split_ands; go_simp); try with_reducible rfl)
        try simp only [Act.put, List.setIfInBounds_toArray, List.set_cons_zero, List.set_cons_succ]
        refine wpT_takeG (i := 25) (v := ?vm3_25) rfl (by kernel_rfl) (fun _ _ _ h => h) rfl ?ym3_25 ?rm3_25
        case ym3_25 => ((intro wz; go_simp); try with_reducible rfl)
        try simp only [Act.put, List.setIfInBounds_toArray, List.set_cons_zero, List.set_cons_succ]
        refine wpT_two (i := 21) (j := 26) (by kernel_rfl) rfl rfl rfl rfl ?_ ?_
        · go_simp
          have SF193 : Hid (Scr (W189.alloc (.cells #[.int .i64 6, .int .i64 0, .int .i64 0, .int .i64 0, .int .i64 i1, .int .i64 x.kind, .int .i64 x.n, .string x.s] 29)) (.slice y1 ns.length y2) ns) := SF192.out.later (below1 _ _)
          have SF194 : Hid (Scr (W189.alloc (.cells #[.int .i64 6, .int .i64 0, .int .i64 0, .int .i64 0, .int .i64 i1, .int .i64 x.kind, .int .i64 x.n, .string x.s] 29)) (.slice (some ⟨W189.heap.size, 0, none⟩) 1 1) [cIns 6 i1 x]) := scr_lit W189 [cIns 6 i1 x] 29 (W189.heap.size) 1 (by simp) rfl (by simp [cIns]; exact XO.out)
          refine ⟨cond_keep (by decide) (HSW.out _ (HB190.out.trans ((below1 W189 _).mono HB190.out.size))), ?_⟩
          refine wpT_two (i := 22) (j := 26) (by kernel_rfl) rfl rfl rfl rfl ?_ ?_
          · go_simp
            refine (with_c (ns := ns) (cl := [cIns 6 i1 x]) (l := l) SF193.out SF194.out ⟨_, _, _, rfl⟩ (by simp; omega)).mono ?_
            rintro r W195 ⟨va196, rfl, sa197, hb198⟩
            have HB199 := Lib.hid ((HB190.out.trans ((below1 W189 _).mono HB190.out.size)).trans (hb198.mono ((HB190.out.trans ((below1 W189 _).mono HB190.out.size))).size))
            have SF200 : Hid (Scr W195 (.slice y1 ns.length y2) ns) := SF193.out.later hb198
            have SF201 := Lib.hid sa197
            clear sa197 hb198
            refine ⟨cond_keep (by decide) (HSW.out _ HB199.out), ?_⟩
            refine wpT_runG (i := 26) (by kernel_rfl) rfl rfl ?_
            go_simp
            have SF202 : Hid (Scr (W195.alloc (.cells #[.int .i64 4, .int .i64 0, .int .i64 0, .int .i64 0, .int .i64 0, .int .i64 x.kind, .int .i64 x.n, .string x.s] 29)) (.slice y1 ns.length y2) ns) := SF200.out.later (below1 _ _)
            have SF203 : Hid (Scr (W195.alloc (.cells #[.int .i64 4, .int .i64 0, .int .i64 0, .int .i64 0, .int .i64 0, .int .i64 x.kind, .int .i64 x.n, .string x.s] 29)) (va196) (ns ++ [cIns 6 i1 x].map (onL l))) := SF201.out.later (below1 _ _)
            have SF204 : Hid (Scr (W195.alloc (.cells #[.int .i64 4, .int .i64 0, .int .i64 0, .int .i64 0, .int .i64 0, .int .i64 x.kind, .int .i64 x.n, .string x.s] 29)) (.slice (some ⟨W195.heap.size, 0, none⟩) 1 1) [cIns 4 0 x]) := scr_lit W195 [cIns 4 0 x] 29 (W195.heap.size) 1 (by simp) rfl (by simp [cIns]; exact XO.out)
            refine ⟨cond_keep (by decide) (HSW.out _ (HB199.out.trans ((below1 W195 _).mono HB199.out.size))), ?_⟩
            refine wpT_runG (i := 27) (by kernel_rfl) rfl rfl ?_
            go_simp
            refine (with_c (ns := ns) (cl := [cIns 4 0 x]) (l := l) SF202.out SF204.out ⟨_, _, _, rfl⟩ (by simp; omega)).mono ?_
            rintro r W205 ⟨va206, rfl, sa207, hb208⟩
            have HB209 := Lib.hid ((HB199.out.trans ((below1 W195 _).mono HB199.out.size)).trans (hb208.mono ((HB199.out.trans ((below1 W195 _).mono HB199.out.size))).size))
            have SF210 : Hid (Scr W205 (.slice y1 ns.length y2) ns) := SF202.out.later hb208
            have SF211 : Hid (Scr W205 (va196) (ns ++ [cIns 6 i1 x].map (onL l))) := SF203.out.later hb208
            have SF212 := Lib.hid sa207
            clear sa207 hb208
            refine ⟨cond_keep (by decide) (HSW.out _ HB209.out), ?_⟩
            refine wpT_runG (i := 28) (by kernel_rfl) rfl rfl ?_
            go_simp
            refine (alike_c SF210.out SF211.out SF212.out D1.out D2.out (HL.out _) (HL.out _) (fun k _ => D3.out k) (by decide) (by omega) (by simp; omega) (by simp; omega)).mono ?_
            rintro r wf ⟨rfl, hbf⟩
            refine ⟨cond_keep (by decide) (HSW.out _ (HB209.out.trans (hbf.mono HB209.out.size))), ?_⟩
            have BF := Lib.hid (B3.out.trans ((HB209.out.trans (hbf.mono HB209.out.size)).mono B3.out.size))
            clear hbf
            refine wpT_takeG (i := 29) (v := ?vz7_29) rfl (by kernel_rfl) (fun _ _ _ h => h) rfl ?yz7_29 ?rz7_29
            case yz7_29 => ((intro wz; go_simp); try with_reducible rfl)
            try simp only [Act.put, List.setIfInBounds_toArray, List.set_cons_zero, List.set_cons_succ]
            refine wpT_takeG (i := 30) (v := ?vz7_30) rfl (by kernel_rfl) (fun _ _ _ h => h) rfl ?yz7_30 ?rz7_30
            case yz7_30 => ((intro wz; go_simp); try with_reducible rfl)
            try simp only [Act.put, List.setIfInBounds_toArray, List.set_cons_zero, List.set_cons_succ]
            refine wpT_done (by kernel_rfl) ?_ _
            go_wp2
            go_ret
            exact ⟨rfl, BF.out⟩
          · go_simp
            have SF213 : Hid (Scr ((W189.alloc (.cells #[.int .i64 6, .int .i64 0, .int .i64 0, .int .i64 0, .int .i64 i1, .int .i64 x.kind, .int .i64 x.n, .string x.s] 29)).alloc (.cells #[.int .i64 4, .int .i64 0, .int .i64 0, .int .i64 0, .int .i64 0, .int .i64 x.kind, .int .i64 x.n, .string x.s] 29)) (.slice y1 ns.length y2) ns) := SF193.out.later (below1 _ _)
            have SF214 : Hid (Scr ((W189.alloc (.cells #[.int .i64 6, .int .i64 0, .int .i64 0, .int .i64 0, .int .i64 i1, .int .i64 x.kind, .int .i64 x.n, .string x.s] 29)).alloc (.cells #[.int .i64 4, .int .i64 0, .int .i64 0, .int .i64 0, .int .i64 0, .int .i64 x.kind, .int .i64 x.n, .string x.s] 29)) (.slice (some ⟨W189.heap.size, 0, none⟩) 1 1) [cIns 6 i1 x]) := SF194.out.later (below1 _ _)
            have SF215 : Hid (Scr ((W189.alloc (.cells #[.int .i64 6, .int .i64 0, .int .i64 0, .int .i64 0, .int .i64 i1, .int .i64 x.kind, .int .i64 x.n, .string x.s] 29)).alloc (.cells #[.int .i64 4, .int .i64 0, .int .i64 0, .int .i64 0, .int .i64 0, .int .i64 x.kind, .int .i64 x.n, .string x.s] 29)) (.slice (some ⟨W189.heap.size + 1, 0, none⟩) 1 1) [cIns 4 0 x]) := scr_lit (W189.alloc (.cells #[.int .i64 6, .int .i64 0, .int .i64 0, .int .i64 0, .int .i64 i1, .int .i64 x.kind, .int .i64 x.n, .string x.s] 29)) [cIns 4 0 x] 29 (W189.heap.size + 1) 1 (by simp) rfl (by simp [cIns]; exact XO.out)
            refine ⟨cond_keep (by decide) (HSW.out _ (HB190.out.trans ((below2 W189 _ _).mono HB190.out.size))), ?_⟩
            refine wpT_runG (i := 22) (by kernel_rfl) rfl rfl ?_
            go_simp
            refine (with_c (ns := ns) (cl := [cIns 6 i1 x]) (l := l) SF213.out SF214.out ⟨_, _, _, rfl⟩ (by simp; omega)).mono ?_
            rintro r W216 ⟨va217, rfl, sa218, hb219⟩
            have HB220 := Lib.hid ((HB190.out.trans ((below2 W189 _ _).mono HB190.out.size)).trans (hb219.mono ((HB190.out.trans ((below2 W189 _ _).mono HB190.out.size))).size))
            have SF221 : Hid (Scr W216 (.slice y1 ns.length y2) ns) := SF213.out.later hb219
            have SF222 : Hid (Scr W216 (.slice (some ⟨W189.heap.size + 1, 0, none⟩) 1 1) [cIns 4 0 x]) := SF215.out.later hb219
            have SF223 := Lib.hid sa218
            clear sa218 hb219
            refine ⟨cond_keep (by decide) (HSW.out _ HB220.out), ?_⟩
            refine wpT_runG (i := 27) (by kernel_rfl) rfl rfl ?_
            go_simp
            refine (with_c (ns := ns) (cl := [cIns 4 0 x]) (l := l) SF221.out SF222.out ⟨_, _, _, rfl⟩ (by simp; omega)).mono ?_
            rintro r W224 ⟨va225, rfl, sa226, hb227⟩
            have HB228 := Lib.hid ((HB220.out.trans ((Below.refl _ W216).mono HB220.out.size)).trans (hb227.mono ((HB220.out.trans ((Below.refl _ W216).mono HB220.out.size))).size))
            have SF229 : Hid (Scr W224 (.slice y1 ns.length y2) ns) := SF221.out.later hb227
            have SF230 : Hid (Scr W224 (va217) (ns ++ [cIns 6 i1 x].map (onL l))) := SF223.out.later hb227
            have SF231 := Lib.hid sa226
            clear sa226 hb227
            refine ⟨cond_keep (by decide) (HSW.out _ HB228.out), ?_⟩
            refine wpT_runG (i := 28) (by kernel_rfl) rfl rfl ?_
            go_simp
            refine (alike_c SF229.out SF230.out SF231.out D1.out D2.out (HL.out _) (HL.out _) (fun k _ => D3.out k) (by decide) (by omega) (by simp; omega) (by simp; omega)).mono ?_
            rintro r wf ⟨rfl, hbf⟩
            refine ⟨cond_keep (by decide) (HSW.out _ (HB228.out.trans (hbf.mono HB228.out.size))), ?_⟩
            have BF := Lib.hid (B3.out.trans ((HB228.out.trans (hbf.mono HB228.out.size)).mono B3.out.size))
            clear hbf
            refine wpT_takeG (i := 29) (v := ?vz8_29) rfl (by kernel_rfl) (fun _ _ _ h => h) rfl ?yz8_29 ?rz8_29
            case yz8_29 => ((intro wz; go_simp); try with_reducible rfl)
            try simp only [Act.put, List.setIfInBounds_toArray, List.set_cons_zero, List.set_cons_succ]
            refine wpT_takeG (i := 30) (v := ?vz8_30) rfl (by kernel_rfl) (fun _ _ _ h => h) rfl ?yz8_30 ?rz8_30
            case yz8_30 => ((intro wz; go_simp); try with_reducible rfl)
            try simp only [Act.put, List.setIfInBounds_toArray, List.set_cons_zero, List.set_cons_succ]
            refine wpT_done (by kernel_rfl) ?_ _
            go_wp2
            go_ret
            exact ⟨rfl, BF.out⟩
        · go_simp
          have SF232 : Hid (Scr (W189.alloc (.cells #[.int .i64 4, .int .i64 0, .int .i64 0, .int .i64 0, .int .i64 0, .int .i64 x.kind, .int .i64 x.n, .string x.s] 29)) (.slice y1 ns.length y2) ns) := SF192.out.later (below1 _ _)
          have SF233 : Hid (Scr (W189.alloc (.cells #[.int .i64 4, .int .i64 0, .int .i64 0, .int .i64 0, .int .i64 0, .int .i64 x.kind, .int .i64 x.n, .string x.s] 29)) (.slice (some ⟨W189.heap.size, 0, none⟩) 1 1) [cIns 4 0 x]) := scr_lit W189 [cIns 4 0 x] 29 (W189.heap.size) 1 (by simp) rfl (by simp [cIns]; exact XO.out)
          refine ⟨cond_keep (by decide) (HSW.out _ (HB190.out.trans ((below1 W189 _).mono HB190.out.size))), ?_⟩
          refine wpT_runG (i := 21) (by kernel_rfl) rfl rfl ?_
          go_simp
          have SF234 : Hid (Scr ((W189.alloc (.cells #[.int .i64 4, .int .i64 0, .int .i64 0, .int .i64 0, .int .i64 0, .int .i64 x.kind, .int .i64 x.n, .string x.s] 29)).alloc (.cells #[.int .i64 6, .int .i64 0, .int .i64 0, .int .i64 0, .int .i64 i1, .int .i64 x.kind, .int .i64 x.n, .string x.s] 29)) (.slice y1 ns.length y2) ns) := SF232.out.later (below1 _ _)
          have SF235 : Hid (Scr ((W189.alloc (.cells #[.int .i64 4, .int .i64 0, .int .i64 0, .int .i64 0, .int .i64 0, .int .i64 x.kind, .int .i64 x.n, .string x.s] 29)).alloc (.cells #[.int .i64 6, .int .i64 0, .int .i64 0, .int .i64 0, .int .i64 i1, .int .i64 x.kind, .int .i64 x.n, .string x.s] 29)) (.slice (some ⟨W189.heap.size, 0, none⟩) 1 1) [cIns 4 0 x]) := SF233.out.later (below1 _ _)
          have SF236 : Hid (Scr ((W189.alloc (.cells #[.int .i64 4, .int .i64 0, .int .i64 0, .int .i64 0, .int .i64 0, .int .i64 x.kind, .int .i64 x.n, .string x.s] 29)).alloc (.cells #[.int .i64 6, .int .i64 0, .int .i64 0, .int .i64 0, .int .i64 i1, .int .i64 x.kind, .int .i64 x.n, .string x.s] 29)) (.slice (some ⟨W189.heap.size + 1, 0, none⟩) 1 1) [cIns 6 i1 x]) := scr_lit (W189.alloc (.cells #[.int .i64 4, .int .i64 0, .int .i64 0, .int .i64 0, .int .i64 0, .int .i64 x.kind, .int .i64 x.n, .string x.s] 29)) [cIns 6 i1 x] 29 (W189.heap.size + 1) 1 (by simp) rfl (by simp [cIns]; exact XO.out)
          refine ⟨cond_keep (by decide) (HSW.out _ (HB190.out.trans ((below2 W189 _ _).mono HB190.out.size))), ?_⟩
          refine wpT_runG (i := 22) (by kernel_rfl) rfl rfl ?_
          go_simp
          refine (with_c (ns := ns) (cl := [cIns 6 i1 x]) (l := l) SF234.out SF236.out ⟨_, _, _, rfl⟩ (by simp; omega)).mono ?_
          rintro r W237 ⟨va238, rfl, sa239, hb240⟩
          have HB241 := Lib.hid ((HB190.out.trans ((below2 W189 _ _).mono HB190.out.size)).trans (hb240.mono ((HB190.out.trans ((below2 W189 _ _).mono HB190.out.size))).size))
          have SF242 : Hid (Scr W237 (.slice y1 ns.length y2) ns) := SF234.out.later hb240
          have SF243 : Hid (Scr W237 (.slice (some ⟨W189.heap.size, 0, none⟩) 1 1) [cIns 4 0 x]) := SF235.out.later hb240
          have SF244 := Lib.hid sa239
          clear sa239 hb240
          refine ⟨cond_keep (by decide) (HSW.out _ HB241.out), ?_⟩
          refine wpT_runG (i := 27) (by kernel_rfl) rfl rfl ?_
          go_simp
          refine (with_c (ns := ns) (cl := [cIns 4 0 x]) (l := l) SF242.out SF243.out ⟨_, _, _, rfl⟩ (by simp; omega)).mono ?_
          rintro r W245 ⟨va246, rfl, sa247, hb248⟩
          have HB249 := Lib.hid ((HB241.out.trans ((Below.refl _ W237).mono HB241.out.size)).trans (hb248.mono ((HB241.out.trans ((Below.refl _ W237).mono HB241.out.size))).size))
          have SF250 : Hid (Scr W245 (.slice y1 ns.length y2) ns) := SF242.out.later hb248
          have SF251 : Hid (Scr W245 (va238) (ns ++ [cIns 6 i1 x].map (onL l))) := SF244.out.later hb248
          have SF252 := Lib.hid sa247
          clear sa247 hb248
          refine ⟨cond_keep (by decide) (HSW.out _ HB249.out), ?_⟩
          refine wpT_runG (i := 28) (by kernel_rfl) rfl rfl ?_
          go_simp
          refine (alike_c SF250.out SF251.out SF252.out D1.out D2.out (HL.out _) (HL.out _) (fun k _ => D3.out k) (by decide) (by omega) (by simp; omega) (by simp; omega)).mono ?_
          rintro r wf ⟨rfl, hbf⟩
          refine ⟨cond_keep (by decide) (HSW.out _ (HB249.out.trans (hbf.mono HB249.out.size))), ?_⟩
          have BF := Lib.hid (B3.out.trans ((HB249.out.trans (hbf.mono HB249.out.size)).mono B3.out.size))
          clear hbf
          refine wpT_takeG (i := 29) (v := ?vz9_29) rfl (by kernel_rfl) (fun _ _ _ h => h) rfl ?yz9_29 ?rz9_29
          case yz9_29 => ((intro wz; go_simp); try with_reducible rfl)
          try simp only [Act.put, List.setIfInBounds_toArray, List.set_cons_zero, List.set_cons_succ]
          refine wpT_takeG (i := 30) (v := ?vz9_30) rfl (by kernel_rfl) (fun _ _ _ h => h) rfl ?yz9_30 ?rz9_30
          case yz9_30 => ((intro wz; go_simp); try with_reducible rfl)
          try simp only [Act.put, List.setIfInBounds_toArray, List.set_cons_zero, List.set_cons_succ]
          refine wpT_done (by kernel_rfl) ?_ _
          go_wp2
          go_ret
          exact ⟨rfl, BF.out⟩
  · simp only [scene0]
    go_wp2
    go_ret
    exact ⟨rfl, B1.out.trans ((below1 w1 _).mono B1.out.size)⟩
end Bead
end Go.Proofs.Ytbpbbmamgajimaa
