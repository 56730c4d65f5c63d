/- FnBeforeIsAfterTheOneBefore returns true. -/
import Derived.Test.YtdmichkekipdpaaNeighbours
import Derived.Test.YtdmichkekipdpaaInsEnds
set_option linter.all false
namespace Go.Proofs.Ytdmichkekipdpaa
open Go.RowKit
namespace Bead
set_option maxRecDepth 100000

theorem ne_beq' {i m : Nat} (h : ¬ i = m) : ((i : Int) == (m : Int)) = false := by
  have z : ¬ (i : Int) = (m : Int) := by omega
  simpa using z
theorem rm_two {u z : List Nat} {e p x : Nat} (h1 : e ≠ p) (h2 : e ≠ x) : rm e (u ++ p :: x :: z) = rm e u ++ p :: x :: rm e z := by
  rw [rm_append, rm_cons_other (fun q => h1 q.symm), rm_cons_other (fun q => h2 q.symm)]
/-- Moving before an element and after the one ahead of it. -/
theorem move_beside {ns : List Cl} {l : Nat} (h : Scened ns l) {k p x e i ip im : Nat} (hp : ((runFrom Md.init ns).seq l)[k]? = some p) (hx : ((runFrom Md.init ns).seq l)[k + 1]? = some x) (he : e ∈ (runFrom Md.init ns).seq l)
    (hi : (runFrom Md.init ns).ret i = some e) (hip : (runFrom Md.init ns).ret ip = some p) (him : (runFrom Md.init ns).ret im = some x) (hex : e ≠ x) :
    okFrom 500 Md.init (ns ++ [onL l (cMv 9 i im)]) = true ∧ okFrom 500 Md.init (ns ++ [onL l (cMv 10 i ip)]) = true ∧ ∀ k, Look k (runFrom Md.init (ns ++ [onL l (cMv 9 i im)])) (runFrom Md.init (ns ++ [onL l (cMv 10 i ip)])) := by
  have hw := h.wf
  have nd := hw.nodup l
  have hpm := List.mem_of_getElem? hp
  have hxm := List.mem_of_getElem? hx
  obtain ⟨u, z, hs, h0, h1, h2, h3, h4⟩ := part_two nd hp hx
  have pa := perm_mv hw (op := 9) (by simp) h.lst hi he (j := im) (x := x) (fun _ => ⟨him, hxm⟩) (most := 500)
  have pb := perm_mv hw (op := 10) (by simp) h.lst hi he (j := ip) (x := p) (fun _ => ⟨hip, hpm⟩) (most := 500)
  have sa := mv_step (m := runFrom Md.init ns) (op := 9) (x := x) (j := im) (by simp) hi he (fun _ => ⟨him, hxm, fun q => hex q.symm⟩)
  refine mvs_look h pa pb (s := ins (posOf 9 x (rm e ((runFrom Md.init ns).seq l))) e (rm e ((runFrom Md.init ns).seq l))) (fun y hy => (move_perm nd he _).mem_iff.1 hy) (by rw [sa]) ?_
  by_cases q : p = e
  · subst q
    rw [mv_9_not (c := onL l (cMv 10 i ip)) (l := l) (.inr rfl) (by simp [onL]) (by simpa [onL, cMv] using hi) (by simpa [onL, cMv] using hip) (.inr (.inl rfl))]
    have e1 : ins (posOf 9 x (rm p ((runFrom Md.init ns).seq l))) p (rm p ((runFrom Md.init ns).seq l)) = (runFrom Md.init ns).seq l := by
      have er : rm p ((runFrom Md.init ns).seq l) = u ++ x :: z := by rw [hs, rm_append, rm_cons_same, rm_cons_other (fun q => h0 q.symm), rm_none h1, rm_none h3]
      have pp : posOf 9 x (u ++ x :: z) = u.length := by simp [posOf, idx_mid h2]
      rw [er, pp, ins_at, hs]
    rw [e1]
    exact (setSeq_self (runFrom Md.init ns).grow l).symm
  · rw [mv_step (m := runFrom Md.init ns) (op := 10) (x := p) (j := ip) (by simp) hi he (fun _ => ⟨hip, hpm, q⟩)]
    have er : rm e ((runFrom Md.init ns).seq l) = rm e u ++ p :: x :: rm e z := by rw [hs]; exact rm_two (fun z => q z.symm) hex
    have p1 : p ∉ rm e u := fun z => h1 (mem_rm.1 z).1
    have x1 : x ∉ rm e u ++ [p] := fun z => by
      rcases List.mem_append.1 z with y | y
      · exact h2 (mem_rm.1 y).1
      · simp at y; exact h0 y.symm
    have : posOf 10 p (rm e ((runFrom Md.init ns).seq l)) = posOf 9 x (rm e ((runFrom Md.init ns).seq l)) := by
      rw [er]
      have a1 : (rm e u ++ p :: x :: rm e z).idxOf p = (rm e u).length := idx_mid p1
      have a2 : (rm e u ++ p :: x :: rm e z).idxOf x = (rm e u).length + 1 := by
        have := idx_mid (u := rm e u ++ [p]) (z := rm e z) x1
        simpa using this
      simp [posOf, a1, a2]
    rw [this]

set_option maxHeartbeats 16000000 in
theorem before_c {w : World} {v : Value} {cs : List Cl} (s : Scr w v cs) (hn : cs.length ≤ 1048576) (n k m : Int) (x : Vl) (hx : x.ok) :
    Calls Try.prog 11 #[v, .int .i64 n, .int .i64 k, .int .i64 m, x.agg] w fun r w' => r = .returned (.bool true) ∧ Below w.heap.size w w' := by
  have ST := Lib.hid (fun o => set_c (s.later (below1 w o)) hn n)
  have XO := Lib.hid hx
  clear s hx
  unfold Vl.agg
  go_enter Try.func11, Try.ntmps11
  go_wp2_with fail
  refine (ST.out _).mono ?_
  rintro r w1 ⟨hb1, hcase⟩
  have B1 := Lib.hid ((below1 w _).trans (hb1.mono (by simp)))
  have G1 := Lib.hid (heap_later (heap_alloc_new w _) hb1)
  clear hb1 ST
  rcases hcase with ⟨l, vs, ve, rfl, hsc, hok0, hl0, hs1, hn1⟩ | rfl
  · have SC := Lib.hid hsc; have S1 := Lib.hid hs1; have N1 := Lib.hid hn1
    generalize hns : namedC cs = ns at *
    clear hns hsc hok0 hl0
    obtain ⟨y1, y2, rfl⟩ := hs1.form
    have NL := Lib.hid (names_length (m := runFrom Md.init ns) ((runFrom Md.init ns).seq l))
    have hlen := scene_len SC.out
    by_cases hE : (runFrom Md.init ns).names ((runFrom Md.init ns).seq l) = []
    · have CH := Lib.hid (fun k o => chosen_nil (hn1.later (below1 w1 o)) hE k)
      obtain ⟨x1, x2, rfl⟩ := hn1.form
      clear hs1 hn1 hE
      go_wp2_with fail
      refine (CH.out m _).mono ?_
      rintro r w2 ⟨rfl, rfl⟩
      go_wp2_with fail
      refine (CH.out k _).mono ?_
      rintro r w2 ⟨rfl, rfl⟩
      clear CH
      go_wp2
      go_ret
      exact ⟨rfl, B1.out.trans ((below1 w1 _).mono B1.out.size)⟩
    · obtain ⟨b1, o1, p1, hv1, cell1⟩ := hn1.cells hE
      subst hv1
      have CH := Lib.hid (fun k o => chosen_c (hn1.later (below1 w1 o)) hE (by rw [NL.out]; omega) k)
      obtain ⟨i0, hi0⟩ : ∃ i, ((runFrom Md.init ns).names ((runFrom Md.init ns).seq l))[0]? = some i := ⟨_, List.getElem?_eq_getElem (List.length_pos_iff.2 hE)⟩
      have c0 := cell1 0 i0 hi0
      rw [Nat.add_zero] at c0
      have hbl : b1 < w1.heap.size := World.block_lt_of_cell? w1 _ c0
      have CELL := Lib.hid cell1
      have nd : ((runFrom Md.init ns).names ((runFrom Md.init ns).seq l)).Nodup := by
        unfold Md.names
        refine nodup_map_on (SC.out.wf.nodup l) (fun a ha b hb q => ?_)
        obtain ⟨ia, hia⟩ := SC.out.named l a ha
        obtain ⟨ib, hib⟩ := SC.out.named l b hb
        unfold Md.name at q
        rw [hia, hib] at q
        simp at q
        subst q
        exact fst_inj SC.out.wf hia hib
      have ND := Lib.hid nd; have I0 := Lib.hid hi0
      have hN5 : ((runFrom Md.init ns).names ((runFrom Md.init ns).seq l)).length ≤ 500 := by rw [NL.out]; exact hlen
      have LN := SC.out.len
      have HL := Lib.hid (fun (m : List Cl) (k : Nat) (hk : k ∈ listsOf ns) => show (runFrom Md.init (ns ++ m)).isL k = true by rw [runFrom_append]; exact run_isL_mono m (mem_lists k hk))
      have hpos : 0 < ((runFrom Md.init ns).names ((runFrom Md.init ns).seq l)).length := List.length_pos_iff.2 hE
      clear hs1 hn1 hE cell1 hi0 nd hlen
      generalize hEE : (runFrom Md.init ns).names ((runFrom Md.init ns).seq l) = E at *
      have HEE := Lib.hid hEE
      clear hEE
      go_wp2_with fail
      refine (CH.out m _).mono ?_
      rintro r wc ⟨im, him, rfl, rfl⟩
      have HIM := Lib.hid him
      clear him
      go_wp2_with fail
      refine (CH.out k _).mono ?_
      rintro r wc ⟨i, hi, rfl, rfl⟩
      have HI := Lib.hid hi
      clear hi CH
      by_cases hfst : im = i0
      · subst hfst
        go_wp2
        go_ret
        exact ⟨rfl, B1.out.trans ((below1 w1 _).mono B1.out.size)⟩
      have qf := ne_beq' hfst
      -- the place of the mark
      obtain ⟨t, ht, hmt⟩ := List.getElem_of_mem HIM.out
      have ht0 : t ≠ 0 := fun q => hfst (by
        subst q
        have := I0.out
        rw [List.getElem?_eq_getElem ht, hmt] at this; simpa using this)
      obtain ⟨t', rfl⟩ : ∃ t', t = t' + 1 := ⟨t - 1, by omega⟩
      have hgm : E[t' + 1]? = some im := by rw [List.getElem?_eq_getElem ht, hmt]
      obtain ⟨ip, hgp⟩ : ∃ i, E[t']? = some i := ⟨_, List.getElem?_eq_getElem (by omega)⟩
      have cp := CELL.out t' ip hgp
      have hidx : idxZ E im = ((t' + 1 : Nat) : Int) := by unfold idxZ; rw [if_pos HIM.out, idxOf_of_get ND.out hgm]
      have hgm' := hgm
      have hgp' := hgp
      rw [← HEE.out] at hgm' hgp'
      obtain ⟨em, hem, hfm, hrm⟩ := scene_get SC.out hgm'
      obtain ⟨ep, hep, hfp, hrp⟩ := scene_get SC.out hgp'
      have hi' := HI.out
      rw [← HEE.out] at hi'
      obtain ⟨e, he, hfe, hre⟩ := scene_elem SC.out hi'
      have sn := SC.out.wf.nodup l
      obtain ⟨a1, a2, a3⟩ := ins_alike SC.out (o1 := 9) (o2 := 10) (by simp) (by simp) (x1 := em) (x2 := ep) (j1 := im) (j2 := ip) x (fun _ => ⟨hrm, List.mem_of_getElem? hem⟩) (fun _ => ⟨hrp, List.mem_of_getElem? hep⟩) (by simp only [posOf]; simp [idxOf_of_get sn hem, idxOf_of_get sn hep])
      have MV := Lib.hid (fun (hie : ¬ i = im) => move_beside SC.out hep hem he hre hrp hrm (fun q => hie (by rw [q, hfm] at hfe; simpa using hfe.symm)))
      have A1 := Lib.hid a1; have A2 := Lib.hid a2; have A3 := Lib.hid a3
      have IX := Lib.hid (fun o q => index_c (w := (w1.alloc o).drewN q) im ((N1.out.later (below1 w1 o)).drewN q) (by omega))
      rw [hidx] at IX
      have tN1 : t' + 1 < E.length := ht
      clear hfst ht0 hgm hgp hgm' hgp' hem hfm hrm hep hfp hrp hi' he hfe hre sn a1 a2 a3 hidx
      clear hmt ht
      generalize E.length = N at *
      have wq : IntKind.i64.wrap (((t' : Int) + 1) - 1) = (t' : Int) := by rw [IntKind.wrap_i64]; omega
      have hw0 : w.heap.size < w1.heap.size := (Array.getElem?_eq_some_iff.1 G1.out).1
      have tN : t' < N := by omega
      go_wp2_with fail
      go_quiet ((go_at_call 33; exact Calls.quiet_of_same (IX.out _ _)))
      obtain ⟨w2, hw2⟩ : ∃ W, W = (w1.alloc (.cells #[.slice y1 ns.length y2, .int .i64 (l : Nat), .slice (some ⟨b1, o1, none⟩) N p1] 34)).drewN nq := ⟨_, rfl⟩
      have hb2 : Below w1.heap.size w1 w2 := by rw [hw2]; exact Below.drewN' (below1 w1 _) _
      have B2 := Lib.hid (B1.out.trans (hb2.mono B1.out.size))
      have BX : Hid (w2.heap[w1.heap.size]? = some (.cells #[.slice y1 ns.length y2, .int .i64 (l : Nat), .slice (some ⟨b1, o1, none⟩) N p1] 34 (0, 0))) := by show _ = _; rw [hw2]; exact heap_alloc_new w1 _
      have VX := Lib.hid (heap_later G1.out hb2)
      have S2 := Lib.hid (S1.out.later hb2)
      rw [← hw2]
      clear hw2 hb2 c0 cp hbl wq
      go_wp2_with fail
      have HSW0 : ∀ W, Below w2.heap.size w2 W → (fun W => W.cell? ⟨w1.heap.size, 0, none⟩ = some (.slice y1 ns.length y2) ∧ W.cell? ⟨w1.heap.size, 1, none⟩ = some (.int .i64 (l : Nat)) ∧ W.cell? ⟨w1.heap.size, 2, none⟩ = some (.slice (some ⟨b1, o1, none⟩) N p1) ∧ W.cell? ⟨w.heap.size, 0, none⟩ = some (.int .i64 x.kind) ∧ W.cell? ⟨w.heap.size, 1, none⟩ = some (.int .i64 x.n) ∧ W.cell? ⟨w.heap.size, 2, none⟩ = some (.string x.s)) W := fun W hb => ⟨cell_of_heap (o := 0) (heap_later BX.out hb) rfl, cell_of_heap (o := 1) (heap_later BX.out hb) rfl, cell_of_heap (o := 2) (heap_later BX.out hb) rfl, cell_of_heap (o := 0) (heap_later VX.out hb) rfl, cell_of_heap (o := 1) (heap_later VX.out hb) rfl, cell_of_heap (o := 2) (heap_later VX.out hb) rfl⟩
      refine wp_region_T (fun W => W.cell? ⟨w1.heap.size, 0, none⟩ = some (.slice y1 ns.length y2) ∧ W.cell? ⟨w1.heap.size, 1, none⟩ = some (.int .i64 (l : Nat)) ∧ W.cell? ⟨w1.heap.size, 2, none⟩ = some (.slice (some ⟨b1, o1, none⟩) N p1) ∧ W.cell? ⟨w.heap.size, 0, none⟩ = some (.int .i64 x.kind) ∧ W.cell? ⟨w.heap.size, 1, none⟩ = some (.int .i64 x.n) ∧ W.cell? ⟨w.heap.size, 2, none⟩ = some (.string x.s)) [6, 7, 12, 13, 14] [] run_mixed ?_
      simp only [List.size_toArray, List.length_cons, List.length_nil]
      have hb23 : Below w2.heap.size w2 w2.drew := (Below.refl _ _).drew
      have S3 : Hid (Scr w2.drew (.slice y1 ns.length y2) ns) := S2.out.later hb23
      have B3 := Lib.hid (B2.out.trans (hb23.mono B2.out.size))
      have z23 : w2.drew.heap.size = w2.heap.size := rfl
      generalize w2.drew = w3 at *
      have HSW : Hid (∀ W, Below w3.heap.size w3 W → (fun W => W.cell? ⟨w1.heap.size, 0, none⟩ = some (.slice y1 ns.length y2) ∧ W.cell? ⟨w1.heap.size, 1, none⟩ = some (.int .i64 (l : Nat)) ∧ W.cell? ⟨w1.heap.size, 2, none⟩ = some (.slice (some ⟨b1, o1, none⟩) N p1) ∧ W.cell? ⟨w.heap.size, 0, none⟩ = some (.int .i64 x.kind) ∧ W.cell? ⟨w.heap.size, 1, none⟩ = some (.int .i64 x.n) ∧ W.cell? ⟨w.heap.size, 2, none⟩ = some (.string x.s)) W) := fun W hb => HSW0 W (hb23.trans (hb.mono (by rw [z23]; exact Nat.le_refl _)))
      have HB0 := Lib.hid (Below.refl w3.heap.size w3)
      have HS := HSW.out w3 HB0.out
      clear hb23 z23 HSW0
      refine wpT_takeG (i := 0) (v := ?va0) rfl (by kernel_rfl) (fun _ _ _ h => h) rfl ?ya0 ?ra0
      case ya0 => ((intro wz; go_simp); try with_reducible rfl)
      try simp only [Act.put, List.setIfInBounds_toArray, List.set_cons_zero, List.set_cons_succ]
      refine wpT_loadG (i := 1) (v := ?va1) rfl (by kernel_rfl) (fun _ _ _ h => h) rfl ?ya1 HS ?ra1
      case ya1 => ((intro wz hSw; (try dsimp only at hSw); go_split_ands; go_simp); try with_reducible rfl)
      try simp only [Act.put, List.setIfInBounds_toArray, List.set_cons_zero, List.set_cons_succ]
      refine wpT_loadG (i := 2) (v := ?va2) rfl (by kernel_rfl) (fun _ _ _ h => h) rfl ?ya2 HS ?ra2
      case ya2 => ((intro wz hSw; (try dsimp only at hSw); go_split_ands; go_simp); try with_reducible rfl)
      try simp only [Act.put, List.setIfInBounds_toArray, List.set_cons_zero, List.set_cons_succ]
      refine wpT_takeG (i := 3) (v := ?va3) rfl (by kernel_rfl) (fun _ _ _ h => h) rfl ?ya3 ?ra3
      case ya3 => ((intro wz; go_simp); try with_reducible rfl)
      try simp only [Act.put, List.setIfInBounds_toArray, List.set_cons_zero, List.set_cons_succ]
      refine wpT_loadG (i := 4) (v := ?va4) rfl (by kernel_rfl) (fun _ _ _ h => h) rfl ?ya4 HS ?ra4
      case ya4 => ((intro wz hSw; (try dsimp only at hSw); go_split_ands; go_simp); try with_reducible rfl)
      try simp only [Act.put, List.setIfInBounds_toArray, List.set_cons_zero, List.set_cons_succ]
      refine wpT_takeG (i := 5) (v := ?va5) rfl (by kernel_rfl) (fun _ _ _ h => h) rfl ?ya5 ?ra5
      case ya5 => ((intro wz; go_simp); try with_reducible rfl)
      try simp only [Act.put, List.setIfInBounds_toArray, List.set_cons_zero, List.set_cons_succ]
      refine wpT_loadG (i := 8) (v := ?va8) rfl (by kernel_rfl) (fun _ _ _ h => h) rfl ?ya8 HS ?ra8
      case ya8 => ((intro wz hSw; (try dsimp only at hSw); go_split_ands; go_simp); try with_reducible rfl)
      try simp only [Act.put, List.setIfInBounds_toArray, List.set_cons_zero, List.set_cons_succ]
      refine wpT_takeG (i := 9) (v := ?va9) rfl (by kernel_rfl) (fun _ _ _ h => h) rfl ?ya9 ?ra9
      case ya9 => ((intro wz; go_simp); try with_reducible rfl)
      try simp only [Act.put, List.setIfInBounds_toArray, List.set_cons_zero, List.set_cons_succ]
      refine wpT_loadG (i := 10) (v := ?va10) rfl (by kernel_rfl) (fun _ _ _ h => h) rfl ?ya10 HS ?ra10
      case ya10 => ((intro wz hSw; (try dsimp only at hSw); go_split_ands; go_simp); try with_reducible rfl)
      try simp only [Act.put, List.setIfInBounds_toArray, List.set_cons_zero, List.set_cons_succ]
      refine wpT_takeG (i := 11) (v := ?va11) rfl (by kernel_rfl) (fun _ _ _ h => h) rfl ?ya11 ?ra11
      case ya11 => ((intro wz; go_simp); try with_reducible rfl)
      try simp only [Act.put, List.setIfInBounds_toArray, List.set_cons_zero, List.set_cons_succ]
      refine wpT_two (i := 6) (j := 12) (by kernel_rfl) rfl rfl rfl rfl ?_ ?_
      · go_simp
        have SF1 : Hid (Scr (w3.alloc (.cells #[.int .i64 5, .int .i64 0, .int .i64 0, .int .i64 0, .int .i64 im, .int .i64 x.kind, .int .i64 x.n, .string x.s] 29)) (.slice y1 ns.length y2) ns) := S3.out.later (below1 _ _)
        have SF2 : Hid (Scr (w3.alloc (.cells #[.int .i64 5, .int .i64 0, .int .i64 0, .int .i64 0, .int .i64 im, .int .i64 x.kind, .int .i64 x.n, .string x.s] 29)) (.slice (some ⟨w3.heap.size, 0, none⟩) 1 1) [cIns 5 im x]) := scr_lit w3 [cIns 5 im x] 29 (w3.heap.size) 1 (by simp) rfl (by simp [cIns]; exact XO.out)
        refine ⟨cond_keep (by decide) (HSW.out _ (HB0.out.trans ((below1 w3 _).mono HB0.out.size))), ?_⟩
        refine wpT_two (i := 7) (j := 12) (by kernel_rfl) rfl rfl rfl rfl ?_ ?_
        · go_simp
          refine (with_c (ns := ns) (cl := [cIns 5 im x]) (l := l) SF1.out SF2.out ⟨_, _, _, rfl⟩ (by simp; omega)).mono ?_
          rintro r W3 ⟨va4, rfl, sa5, hb6⟩
          have HB7 := Lib.hid ((HB0.out.trans ((below1 w3 _).mono HB0.out.size)).trans (hb6.mono ((HB0.out.trans ((below1 w3 _).mono HB0.out.size))).size))
          have SF8 : Hid (Scr W3 (.slice y1 ns.length y2) ns) := SF1.out.later hb6
          have SF9 := Lib.hid sa5
          clear sa5 hb6
          refine ⟨cond_keep (by decide) (HSW.out _ HB7.out), ?_⟩
          refine wpT_runG (i := 12) (by kernel_rfl) rfl rfl ?_
          go_simp
          have SF10 : Hid (Scr (W3.alloc (.cells #[.int .i64 6, .int .i64 0, .int .i64 0, .int .i64 0, .int .i64 ip, .int .i64 x.kind, .int .i64 x.n, .string x.s] 29)) (.slice y1 ns.length y2) ns) := SF8.out.later (below1 _ _)
          have SF11 : Hid (Scr (W3.alloc (.cells #[.int .i64 6, .int .i64 0, .int .i64 0, .int .i64 0, .int .i64 ip, .int .i64 x.kind, .int .i64 x.n, .string x.s] 29)) (va4) (ns ++ [cIns 5 im x].map (onL l))) := SF9.out.later (below1 _ _)
          have SF12 : Hid (Scr (W3.alloc (.cells #[.int .i64 6, .int .i64 0, .int .i64 0, .int .i64 0, .int .i64 ip, .int .i64 x.kind, .int .i64 x.n, .string x.s] 29)) (.slice (some ⟨W3.heap.size, 0, none⟩) 1 1) [cIns 6 ip x]) := scr_lit W3 [cIns 6 ip x] 29 (W3.heap.size) 1 (by simp) rfl (by simp [cIns]; exact XO.out)
          refine ⟨cond_keep (by decide) (HSW.out _ (HB7.out.trans ((below1 W3 _).mono HB7.out.size))), ?_⟩
          refine wpT_runG (i := 13) (by kernel_rfl) rfl rfl ?_
          go_simp
          refine (with_c (ns := ns) (cl := [cIns 6 ip x]) (l := l) SF10.out SF12.out ⟨_, _, _, rfl⟩ (by simp; omega)).mono ?_
          rintro r W13 ⟨va14, rfl, sa15, hb16⟩
          have HB17 := Lib.hid ((HB7.out.trans ((below1 W3 _).mono HB7.out.size)).trans (hb16.mono ((HB7.out.trans ((below1 W3 _).mono HB7.out.size))).size))
          have SF18 : Hid (Scr W13 (.slice y1 ns.length y2) ns) := SF10.out.later hb16
          have SF19 : Hid (Scr W13 (va4) (ns ++ [cIns 5 im x].map (onL l))) := SF11.out.later hb16
          have SF20 := Lib.hid sa15
          clear sa15 hb16
          refine ⟨cond_keep (by decide) (HSW.out _ HB17.out), ?_⟩
          refine wpT_runG (i := 14) (by kernel_rfl) rfl rfl ?_
          go_simp
          refine (alike_c SF18.out SF19.out SF20.out A1.out A2.out (HL.out _) (HL.out _) (fun k _ => A3.out k) (by decide) (by omega) (by simp; omega) (by simp; omega)).mono ?_
          rintro r wf ⟨rfl, hbf⟩
          refine ⟨cond_keep (by decide) (HSW.out _ (HB17.out.trans (hbf.mono HB17.out.size))), ?_⟩
          have hbx := HB17.out.trans (hbf.mono HB17.out.size)
          have BF := Lib.hid (B3.out.trans (hbx.mono B3.out.size))
          have SN := Lib.hid (SF18.out.later hbf)
          have KC := HSW.out _ hbx
          have HKC := Lib.hid KC
          clear hbf hbx KC
          refine wpT_takeG (i := 15) (v := ?vy1_15) rfl (by kernel_rfl) (fun _ _ _ h => h) rfl ?yy1_15 ?ry1_15
          case yy1_15 => ((intro wz; go_simp); try with_reducible rfl)
          try simp only [Act.put, List.setIfInBounds_toArray, List.set_cons_zero, List.set_cons_succ]
          refine wpT_done (by kernel_rfl) ?_ _
          by_cases hie : i = im
          · subst hie
            go_wp2
            go_ret
            exact ⟨rfl, BF.out⟩
          · have qie := ne_beq' hie
            obtain ⟨d1, d2, d3⟩ := MV.out hie
            have D1 := Lib.hid d1; have D2 := Lib.hid d2; have D3 := Lib.hid d3
            clear d1 d2 d3 hie
            go_wp2_with fail
            refine wp_region_T (fun W => W.cell? ⟨w1.heap.size, 0, none⟩ = some (.slice y1 ns.length y2) ∧ W.cell? ⟨w1.heap.size, 1, none⟩ = some (.int .i64 (l : Nat)) ∧ W.cell? ⟨w1.heap.size, 2, none⟩ = some (.slice (some ⟨b1, o1, none⟩) N p1) ∧ W.cell? ⟨w.heap.size, 0, none⟩ = some (.int .i64 x.kind) ∧ W.cell? ⟨w.heap.size, 1, none⟩ = some (.int .i64 x.n) ∧ W.cell? ⟨w.heap.size, 2, none⟩ = some (.string x.s)) [8, 9, 14, 15, 16] [] run_mixed ?_
            simp only [List.size_toArray, List.length_cons, List.length_nil]
            have hb23 : Below wf.heap.size wf wf.drew := (Below.refl _ _).drew
            have S5 : Hid (Scr wf.drew (.slice y1 ns.length y2) ns) := SN.out.later hb23
            have HS5 : (fun W => W.cell? ⟨w1.heap.size, 0, none⟩ = some (.slice y1 ns.length y2) ∧ W.cell? ⟨w1.heap.size, 1, none⟩ = some (.int .i64 (l : Nat)) ∧ W.cell? ⟨w1.heap.size, 2, none⟩ = some (.slice (some ⟨b1, o1, none⟩) N p1) ∧ W.cell? ⟨w.heap.size, 0, none⟩ = some (.int .i64 x.kind) ∧ W.cell? ⟨w.heap.size, 1, none⟩ = some (.int .i64 x.n) ∧ W.cell? ⟨w.heap.size, 2, none⟩ = some (.string x.s)) wf.drew := HKC.out
            have B5 := Lib.hid (BF.out.trans (hb23.mono BF.out.size))
            clear B3 HSW HB0 HS
            have B3 := B5
            generalize wf.drew = w5 at *
            have HSW : Hid (∀ W, Below w5.heap.size w5 W → (fun W => W.cell? ⟨w1.heap.size, 0, none⟩ = some (.slice y1 ns.length y2) ∧ W.cell? ⟨w1.heap.size, 1, none⟩ = some (.int .i64 (l : Nat)) ∧ W.cell? ⟨w1.heap.size, 2, none⟩ = some (.slice (some ⟨b1, o1, none⟩) N p1) ∧ W.cell? ⟨w.heap.size, 0, none⟩ = some (.int .i64 x.kind) ∧ W.cell? ⟨w.heap.size, 1, none⟩ = some (.int .i64 x.n) ∧ W.cell? ⟨w.heap.size, 2, none⟩ = some (.string x.s)) W) := fun W hb => ⟨(hb.cell (p := ⟨w1.heap.size, 0, none⟩) (World.block_lt_of_cell? w5 _ HS5.1)).trans HS5.1, (hb.cell (p := ⟨w1.heap.size, 1, none⟩) (World.block_lt_of_cell? w5 _ HS5.2.1)).trans HS5.2.1, (hb.cell (p := ⟨w1.heap.size, 2, none⟩) (World.block_lt_of_cell? w5 _ HS5.2.2.1)).trans HS5.2.2.1, (hb.cell (p := ⟨w.heap.size, 0, none⟩) (World.block_lt_of_cell? w5 _ HS5.2.2.2.1)).trans HS5.2.2.2.1, (hb.cell (p := ⟨w.heap.size, 1, none⟩) (World.block_lt_of_cell? w5 _ HS5.2.2.2.2.1)).trans HS5.2.2.2.2.1, (hb.cell (p := ⟨w.heap.size, 2, none⟩) (World.block_lt_of_cell? w5 _ HS5.2.2.2.2.2)).trans HS5.2.2.2.2.2⟩
            have HB0 := Lib.hid (Below.refl w5.heap.size w5)
            have HS := HSW.out w5 HB0.out
            clear hb23 HS5
            refine wpT_takeG (i := 0) (v := ?vb1_0) rfl (by kernel_rfl) (fun _ _ _ h => h) rfl ?yb1_0 ?rb1_0
            case yb1_0 => ((intro wz; go_simp); try with_reducible rfl)
            try simp only [Act.put, List.setIfInBounds_toArray, List.set_cons_zero, List.set_cons_succ]
            refine wpT_takeG (i := 1) (v := ?vb1_1) rfl (by kernel_rfl) (fun _ _ _ h => h) rfl ?yb1_1 ?rb1_1
            case yb1_1 => ((intro wz; go_simp); try with_reducible rfl)
            try simp only [Act.put, List.setIfInBounds_toArray, List.set_cons_zero, List.set_cons_succ]
            refine wpT_takeG (i := 2) (v := ?vb1_2) rfl (by kernel_rfl) (fun _ _ _ h => h) rfl ?yb1_2 ?rb1_2
            case yb1_2 => ((intro wz; go_simp); try with_reducible rfl)
            try simp only [Act.put, List.setIfInBounds_toArray, List.set_cons_zero, List.set_cons_succ]
            refine wpT_loadG (i := 3) (v := ?vb1_3) rfl (by kernel_rfl) (fun _ _ _ h => h) rfl ?yb1_3 HS ?rb1_3
            case yb1_3 => ((intro wz hSw; (try dsimp only at hSw); go_split_ands; go_simp); try with_reducible rfl)
            try simp only [Act.put, List.setIfInBounds_toArray, List.set_cons_zero, List.set_cons_succ]
            refine wpT_loadG (i := 4) (v := ?vb1_4) rfl (by kernel_rfl) (fun _ _ _ h => h) rfl ?yb1_4 HS ?rb1_4
            case yb1_4 => ((intro wz hSw; (try dsimp only at hSw); go_split_ands; go_simp); try with_reducible rfl)
            try simp only [Act.put, List.setIfInBounds_toArray, List.set_cons_zero, List.set_cons_succ]
            refine wpT_takeG (i := 5) (v := ?vb1_5) rfl (by kernel_rfl) (fun _ _ _ h => h) rfl ?yb1_5 ?rb1_5
            case yb1_5 => ((intro wz; go_simp); try with_reducible rfl)
            try simp only [Act.put, List.setIfInBounds_toArray, List.set_cons_zero, List.set_cons_succ]
            refine wpT_takeG (i := 6) (v := ?vb1_6) rfl (by kernel_rfl) (fun _ _ _ h => h) rfl ?yb1_6 ?rb1_6
            case yb1_6 => ((intro wz; go_simp); try with_reducible rfl)
            try simp only [Act.put, List.setIfInBounds_toArray, List.set_cons_zero, List.set_cons_succ]
            refine wpT_takeG (i := 7) (v := ?vb1_7) rfl (by kernel_rfl) (fun _ _ _ h => h) rfl ?yb1_7 ?rb1_7
            case yb1_7 => ((intro wz; go_simp); try with_reducible rfl)
            try simp only [Act.put, List.setIfInBounds_toArray, List.set_cons_zero, List.set_cons_succ]
            refine wpT_loadG (i := 10) (v := ?vb1_10) rfl (by kernel_rfl) (fun _ _ _ h => h) rfl ?yb1_10 HS ?rb1_10
            case yb1_10 => ((intro wz hSw; (try dsimp only at hSw); go_split_ands; go_simp); try with_reducible rfl)
            try simp only [Act.put, List.setIfInBounds_toArray, List.set_cons_zero, List.set_cons_succ]
            refine wpT_takeG (i := 11) (v := ?vb1_11) rfl (by kernel_rfl) (fun _ _ _ h => h) rfl ?yb1_11 ?rb1_11
            case yb1_11 => ((intro wz; go_simp); try with_reducible rfl)
            try simp only [Act.put, List.setIfInBounds_toArray, List.set_cons_zero, List.set_cons_succ]
            refine wpT_takeG (i := 12) (v := ?vb1_12) rfl (by kernel_rfl) (fun _ _ _ h => h) rfl ?yb1_12 ?rb1_12
            case yb1_12 => ((intro wz; go_simp); try with_reducible rfl)
            try simp only [Act.put, List.setIfInBounds_toArray, List.set_cons_zero, List.set_cons_succ]
            refine wpT_takeG (i := 13) (v := ?vb1_13) rfl (by kernel_rfl) (fun _ _ _ h => h) rfl ?yb1_13 ?rb1_13
            case yb1_13 => ((intro wz; go_simp); try with_reducible rfl)
            try simp only [Act.put, List.setIfInBounds_toArray, List.set_cons_zero, List.set_cons_succ]
            refine wpT_two (i := 8) (j := 14) (by kernel_rfl) rfl rfl rfl rfl ?_ ?_
            · go_simp
              have SF21 : Hid (Scr (w5.alloc (.cells #[.int .i64 9, .int .i64 0, .int .i64 0, .int .i64 i, .int .i64 im, .int .i64 0, .int .i64 0, .string ⟨#[]⟩] 29)) (.slice y1 ns.length y2) ns) := S5.out.later (below1 _ _)
              have SF22 : Hid (Scr (w5.alloc (.cells #[.int .i64 9, .int .i64 0, .int .i64 0, .int .i64 i, .int .i64 im, .int .i64 0, .int .i64 0, .string ⟨#[]⟩] 29)) (.slice (some ⟨w5.heap.size, 0, none⟩) 1 1) [cMv 9 i im]) := scr_lit w5 [cMv 9 i im] 29 (w5.heap.size) 1 (by simp) rfl (by simp [cMv]; exact vl_zero_ok)
              refine ⟨cond_keep (by decide) (HSW.out _ (HB0.out.trans ((below1 w5 _).mono HB0.out.size))), ?_⟩
              refine wpT_two (i := 9) (j := 14) (by kernel_rfl) rfl rfl rfl rfl ?_ ?_
              · go_simp
                refine (with_c (ns := ns) (cl := [cMv 9 i im]) (l := l) SF21.out SF22.out ⟨_, _, _, rfl⟩ (by simp; omega)).mono ?_
                rintro r W23 ⟨va24, rfl, sa25, hb26⟩
                have HB27 := Lib.hid ((HB0.out.trans ((below1 w5 _).mono HB0.out.size)).trans (hb26.mono ((HB0.out.trans ((below1 w5 _).mono HB0.out.size))).size))
                have SF28 : Hid (Scr W23 (.slice y1 ns.length y2) ns) := SF21.out.later hb26
                have SF29 := Lib.hid sa25
                clear sa25 hb26
                refine ⟨cond_keep (by decide) (HSW.out _ HB27.out), ?_⟩
                refine wpT_runG (i := 14) (by kernel_rfl) rfl rfl ?_
                go_simp
                have SF30 : Hid (Scr (W23.alloc (.cells #[.int .i64 10, .int .i64 0, .int .i64 0, .int .i64 i, .int .i64 ip, .int .i64 0, .int .i64 0, .string ⟨#[]⟩] 29)) (.slice y1 ns.length y2) ns) := SF28.out.later (below1 _ _)
                have SF31 : Hid (Scr (W23.alloc (.cells #[.int .i64 10, .int .i64 0, .int .i64 0, .int .i64 i, .int .i64 ip, .int .i64 0, .int .i64 0, .string ⟨#[]⟩] 29)) (va24) (ns ++ [cMv 9 i im].map (onL l))) := SF29.out.later (below1 _ _)
                have SF32 : Hid (Scr (W23.alloc (.cells #[.int .i64 10, .int .i64 0, .int .i64 0, .int .i64 i, .int .i64 ip, .int .i64 0, .int .i64 0, .string ⟨#[]⟩] 29)) (.slice (some ⟨W23.heap.size, 0, none⟩) 1 1) [cMv 10 i ip]) := scr_lit W23 [cMv 10 i ip] 29 (W23.heap.size) 1 (by simp) rfl (by simp [cMv]; exact vl_zero_ok)
                refine ⟨cond_keep (by decide) (HSW.out _ (HB27.out.trans ((below1 W23 _).mono HB27.out.size))), ?_⟩
                refine wpT_runG (i := 15) (by kernel_rfl) rfl rfl ?_
                go_simp
                refine (with_c (ns := ns) (cl := [cMv 10 i ip]) (l := l) SF30.out SF32.out ⟨_, _, _, rfl⟩ (by simp; omega)).mono ?_
                rintro r W33 ⟨va34, rfl, sa35, hb36⟩
                have HB37 := Lib.hid ((HB27.out.trans ((below1 W23 _).mono HB27.out.size)).trans (hb36.mono ((HB27.out.trans ((below1 W23 _).mono HB27.out.size))).size))
                have SF38 : Hid (Scr W33 (.slice y1 ns.length y2) ns) := SF30.out.later hb36
                have SF39 : Hid (Scr W33 (va24) (ns ++ [cMv 9 i im].map (onL l))) := SF31.out.later hb36
                have SF40 := Lib.hid sa35
                clear sa35 hb36
                refine ⟨cond_keep (by decide) (HSW.out _ HB37.out), ?_⟩
                refine wpT_runG (i := 16) (by kernel_rfl) rfl rfl ?_
                go_simp
                refine (alike_c SF38.out SF39.out SF40.out D1.out D2.out (HL.out _) (HL.out _) (fun k _ => D3.out k) (by decide) (by omega) (by simp; omega) (by simp; omega)).mono ?_
                rintro r wf ⟨rfl, hbf⟩
                refine ⟨cond_keep (by decide) (HSW.out _ (HB37.out.trans (hbf.mono HB37.out.size))), ?_⟩
                have BF := Lib.hid (B3.out.trans ((HB37.out.trans (hbf.mono HB37.out.size)).mono B3.out.size))
                clear hbf
                refine wpT_takeG (i := 17) (v := ?vz2_17) rfl (by kernel_rfl) (fun _ _ _ h => h) rfl ?yz2_17 ?rz2_17
                case yz2_17 => ((intro wz; go_simp); try with_reducible rfl)
                try simp only [Act.put, List.setIfInBounds_toArray, List.set_cons_zero, List.set_cons_succ]
                refine wpT_takeG (i := 18) (v := ?vz2_18) rfl (by kernel_rfl) (fun _ _ _ h => h) rfl ?yz2_18 ?rz2_18
                case yz2_18 => ((intro wz; go_simp); try with_reducible rfl)
                try simp only [Act.put, List.setIfInBounds_toArray, List.set_cons_zero, List.set_cons_succ]
                refine wpT_done (by kernel_rfl) ?_ _
                go_wp2
                go_ret
                exact ⟨rfl, BF.out⟩
              · go_simp
                have SF41 : Hid (Scr ((w5.alloc (.cells #[.int .i64 9, .int .i64 0, .int .i64 0, .int .i64 i, .int .i64 im, .int .i64 0, .int .i64 0, .string ⟨#[]⟩] 29)).alloc (.cells #[.int .i64 10, .int .i64 0, .int .i64 0, .int .i64 i, .int .i64 ip, .int .i64 0, .int .i64 0, .string ⟨#[]⟩] 29)) (.slice y1 ns.length y2) ns) := SF21.out.later (below1 _ _)
                have SF42 : Hid (Scr ((w5.alloc (.cells #[.int .i64 9, .int .i64 0, .int .i64 0, .int .i64 i, .int .i64 im, .int .i64 0, .int .i64 0, .string ⟨#[]⟩] 29)).alloc (.cells #[.int .i64 10, .int .i64 0, .int .i64 0, .int .i64 i, .int .i64 ip, .int .i64 0, .int .i64 0, .string ⟨#[]⟩] 29)) (.slice (some ⟨w5.heap.size, 0, none⟩) 1 1) [cMv 9 i im]) := SF22.out.later (below1 _ _)
                have SF43 : Hid (Scr ((w5.alloc (.cells #[.int .i64 9, .int .i64 0, .int .i64 0, .int .i64 i, .int .i64 im, .int .i64 0, .int .i64 0, .string ⟨#[]⟩] 29)).alloc (.cells #[.int .i64 10, .int .i64 0, .int .i64 0, .int .i64 i, .int .i64 ip, .int .i64 0, .int .i64 0, .string ⟨#[]⟩] 29)) (.slice (some ⟨w5.heap.size + 1, 0, none⟩) 1 1) [cMv 10 i ip]) := scr_lit (w5.alloc (.cells #[.int .i64 9, .int .i64 0, .int .i64 0, .int .i64 i, .int .i64 im, .int .i64 0, .int .i64 0, .string ⟨#[]⟩] 29)) [cMv 10 i ip] 29 (w5.heap.size + 1) 1 (by simp) rfl (by simp [cMv]; exact vl_zero_ok)
                refine ⟨cond_keep (by decide) (HSW.out _ (HB0.out.trans ((below2 w5 _ _).mono HB0.out.size))), ?_⟩
                refine wpT_runG (i := 9) (by kernel_rfl) rfl rfl ?_
                go_simp
                refine (with_c (ns := ns) (cl := [cMv 9 i im]) (l := l) SF41.out SF42.out ⟨_, _, _, rfl⟩ (by simp; omega)).mono ?_
                rintro r W44 ⟨va45, rfl, sa46, hb47⟩
                have HB48 := Lib.hid ((HB0.out.trans ((below2 w5 _ _).mono HB0.out.size)).trans (hb47.mono ((HB0.out.trans ((below2 w5 _ _).mono HB0.out.size))).size))
                have SF49 : Hid (Scr W44 (.slice y1 ns.length y2) ns) := SF41.out.later hb47
                have SF50 : Hid (Scr W44 (.slice (some ⟨w5.heap.size + 1, 0, none⟩) 1 1) [cMv 10 i ip]) := SF43.out.later hb47
                have SF51 := Lib.hid sa46
                clear sa46 hb47
                refine ⟨cond_keep (by decide) (HSW.out _ HB48.out), ?_⟩
                refine wpT_runG (i := 15) (by kernel_rfl) rfl rfl ?_
                go_simp
                refine (with_c (ns := ns) (cl := [cMv 10 i ip]) (l := l) SF49.out SF50.out ⟨_, _, _, rfl⟩ (by simp; omega)).mono ?_
                rintro r W52 ⟨va53, rfl, sa54, hb55⟩
                have HB56 := Lib.hid ((HB48.out.trans ((Below.refl _ W44).mono HB48.out.size)).trans (hb55.mono ((HB48.out.trans ((Below.refl _ W44).mono HB48.out.size))).size))
                have SF57 : Hid (Scr W52 (.slice y1 ns.length y2) ns) := SF49.out.later hb55
                have SF58 : Hid (Scr W52 (va45) (ns ++ [cMv 9 i im].map (onL l))) := SF51.out.later hb55
                have SF59 := Lib.hid sa54
                clear sa54 hb55
                refine ⟨cond_keep (by decide) (HSW.out _ HB56.out), ?_⟩
                refine wpT_runG (i := 16) (by kernel_rfl) rfl rfl ?_
                go_simp
                refine (alike_c SF57.out SF58.out SF59.out D1.out D2.out (HL.out _) (HL.out _) (fun k _ => D3.out k) (by decide) (by omega) (by simp; omega) (by simp; omega)).mono ?_
                rintro r wf ⟨rfl, hbf⟩
                refine ⟨cond_keep (by decide) (HSW.out _ (HB56.out.trans (hbf.mono HB56.out.size))), ?_⟩
                have BF := Lib.hid (B3.out.trans ((HB56.out.trans (hbf.mono HB56.out.size)).mono B3.out.size))
                clear hbf
                refine wpT_takeG (i := 17) (v := ?vz3_17) rfl (by kernel_rfl) (fun _ _ _ h => h) rfl ?yz3_17 ?rz3_17
                case yz3_17 => ((intro wz; go_simp); try with_reducible rfl)
                try simp only [Act.put, List.setIfInBounds_toArray, List.set_cons_zero, List.set_cons_succ]
                refine wpT_takeG (i := 18) (v := ?vz3_18) rfl (by kernel_rfl) (fun _ _ _ h => h) rfl ?yz3_18 ?rz3_18
                case yz3_18 => ((intro wz; go_simp); try with_reducible rfl)
                try simp only [Act.put, List.setIfInBounds_toArray, List.set_cons_zero, List.set_cons_succ]
                refine wpT_done (by kernel_rfl) ?_ _
                go_wp2
                go_ret
                exact ⟨rfl, BF.out⟩
            · go_simp
              have SF60 : Hid (Scr (w5.alloc (.cells #[.int .i64 10, .int .i64 0, .int .i64 0, .int .i64 i, .int .i64 ip, .int .i64 0, .int .i64 0, .string ⟨#[]⟩] 29)) (.slice y1 ns.length y2) ns) := S5.out.later (below1 _ _)
              have SF61 : Hid (Scr (w5.alloc (.cells #[.int .i64 10, .int .i64 0, .int .i64 0, .int .i64 i, .int .i64 ip, .int .i64 0, .int .i64 0, .string ⟨#[]⟩] 29)) (.slice (some ⟨w5.heap.size, 0, none⟩) 1 1) [cMv 10 i ip]) := scr_lit w5 [cMv 10 i ip] 29 (w5.heap.size) 1 (by simp) rfl (by simp [cMv]; exact vl_zero_ok)
              refine ⟨cond_keep (by decide) (HSW.out _ (HB0.out.trans ((below1 w5 _).mono HB0.out.size))), ?_⟩
              refine wpT_runG (i := 8) (by kernel_rfl) rfl rfl ?_
              go_simp
              have SF62 : Hid (Scr ((w5.alloc (.cells #[.int .i64 10, .int .i64 0, .int .i64 0, .int .i64 i, .int .i64 ip, .int .i64 0, .int .i64 0, .string ⟨#[]⟩] 29)).alloc (.cells #[.int .i64 9, .int .i64 0, .int .i64 0, .int .i64 i, .int .i64 im, .int .i64 0, .int .i64 0, .string ⟨#[]⟩] 29)) (.slice y1 ns.length y2) ns) := SF60.out.later (below1 _ _)
              have SF63 : Hid (Scr ((w5.alloc (.cells #[.int .i64 10, .int .i64 0, .int .i64 0, .int .i64 i, .int .i64 ip, .int .i64 0, .int .i64 0, .string ⟨#[]⟩] 29)).alloc (.cells #[.int .i64 9, .int .i64 0, .int .i64 0, .int .i64 i, .int .i64 im, .int .i64 0, .int .i64 0, .string ⟨#[]⟩] 29)) (.slice (some ⟨w5.heap.size, 0, none⟩) 1 1) [cMv 10 i ip]) := SF61.out.later (below1 _ _)
              have SF64 : Hid (Scr ((w5.alloc (.cells #[.int .i64 10, .int .i64 0, .int .i64 0, .int .i64 i, .int .i64 ip, .int .i64 0, .int .i64 0, .string ⟨#[]⟩] 29)).alloc (.cells #[.int .i64 9, .int .i64 0, .int .i64 0, .int .i64 i, .int .i64 im, .int .i64 0, .int .i64 0, .string ⟨#[]⟩] 29)) (.slice (some ⟨w5.heap.size + 1, 0, none⟩) 1 1) [cMv 9 i im]) := scr_lit (w5.alloc (.cells #[.int .i64 10, .int .i64 0, .int .i64 0, .int .i64 i, .int .i64 ip, .int .i64 0, .int .i64 0, .string ⟨#[]⟩] 29)) [cMv 9 i im] 29 (w5.heap.size + 1) 1 (by simp) rfl (by simp [cMv]; exact vl_zero_ok)
              refine ⟨cond_keep (by decide) (HSW.out _ (HB0.out.trans ((below2 w5 _ _).mono HB0.out.size))), ?_⟩
              refine wpT_runG (i := 9) (by kernel_rfl) rfl rfl ?_
              go_simp
              refine (with_c (ns := ns) (cl := [cMv 9 i im]) (l := l) SF62.out SF64.out ⟨_, _, _, rfl⟩ (by simp; omega)).mono ?_
              rintro r W65 ⟨va66, rfl, sa67, hb68⟩
              have HB69 := Lib.hid ((HB0.out.trans ((below2 w5 _ _).mono HB0.out.size)).trans (hb68.mono ((HB0.out.trans ((below2 w5 _ _).mono HB0.out.size))).size))
              have SF70 : Hid (Scr W65 (.slice y1 ns.length y2) ns) := SF62.out.later hb68
              have SF71 : Hid (Scr W65 (.slice (some ⟨w5.heap.size, 0, none⟩) 1 1) [cMv 10 i ip]) := SF63.out.later hb68
              have SF72 := Lib.hid sa67
              clear sa67 hb68
              refine ⟨cond_keep (by decide) (HSW.out _ HB69.out), ?_⟩
              refine wpT_runG (i := 15) (by kernel_rfl) rfl rfl ?_
              go_simp
              refine (with_c (ns := ns) (cl := [cMv 10 i ip]) (l := l) SF70.out SF71.out ⟨_, _, _, rfl⟩ (by simp; omega)).mono ?_
              rintro r W73 ⟨va74, rfl, sa75, hb76⟩
              have HB77 := Lib.hid ((HB69.out.trans ((Below.refl _ W65).mono HB69.out.size)).trans (hb76.mono ((HB69.out.trans ((Below.refl _ W65).mono HB69.out.size))).size))
              have SF78 : Hid (Scr W73 (.slice y1 ns.length y2) ns) := SF70.out.later hb76
              have SF79 : Hid (Scr W73 (va66) (ns ++ [cMv 9 i im].map (onL l))) := SF72.out.later hb76
              have SF80 := Lib.hid sa75
              clear sa75 hb76
              refine ⟨cond_keep (by decide) (HSW.out _ HB77.out), ?_⟩
              refine wpT_runG (i := 16) (by kernel_rfl) rfl rfl ?_
              go_simp
              refine (alike_c SF78.out SF79.out SF80.out D1.out D2.out (HL.out _) (HL.out _) (fun k _ => D3.out k) (by decide) (by omega) (by simp; omega) (by simp; omega)).mono ?_
              rintro r wf ⟨rfl, hbf⟩
              refine ⟨cond_keep (by decide) (HSW.out _ (HB77.out.trans (hbf.mono HB77.out.size))), ?_⟩
              have BF := Lib.hid (B3.out.trans ((HB77.out.trans (hbf.mono HB77.out.size)).mono B3.out.size))
              clear hbf
              refine wpT_takeG (i := 17) (v := ?vz4_17) rfl (by kernel_rfl) (fun _ _ _ h => h) rfl ?yz4_17 ?rz4_17
              case yz4_17 => ((intro wz; go_simp); try with_reducible rfl)
              try simp only [Act.put, List.setIfInBounds_toArray, List.set_cons_zero, List.set_cons_succ]
              refine wpT_takeG (i := 18) (v := ?vz4_18) rfl (by kernel_rfl) (fun _ _ _ h => h) rfl ?yz4_18 ?rz4_18
              case yz4_18 => ((intro wz; go_simp); try with_reducible rfl)
              try simp only [Act.put, List.setIfInBounds_toArray, List.set_cons_zero, List.set_cons_succ]
              refine wpT_done (by kernel_rfl) ?_ _
              go_wp2
              go_ret
              exact ⟨rfl, BF.out⟩
        · go_simp
          have SF81 : Hid (Scr ((w3.alloc (.cells #[.int .i64 5, .int .i64 0, .int .i64 0, .int .i64 0, .int .i64 im, .int .i64 x.kind, .int .i64 x.n, .string x.s] 29)).alloc (.cells #[.int .i64 6, .int .i64 0, .int .i64 0, .int .i64 0, .int .i64 ip, .int .i64 x.kind, .int .i64 x.n, .string x.s] 29)) (.slice y1 ns.length y2) ns) := SF1.out.later (below1 _ _)
          have SF82 : Hid (Scr ((w3.alloc (.cells #[.int .i64 5, .int .i64 0, .int .i64 0, .int .i64 0, .int .i64 im, .int .i64 x.kind, .int .i64 x.n, .string x.s] 29)).alloc (.cells #[.int .i64 6, .int .i64 0, .int .i64 0, .int .i64 0, .int .i64 ip, .int .i64 x.kind, .int .i64 x.n, .string x.s] 29)) (.slice (some ⟨w3.heap.size, 0, none⟩) 1 1) [cIns 5 im x]) := SF2.out.later (below1 _ _)
          have SF83 : Hid (Scr ((w3.alloc (.cells #[.int .i64 5, .int .i64 0, .int .i64 0, .int .i64 0, .int .i64 im, .int .i64 x.kind, .int .i64 x.n, .string x.s] 29)).alloc (.cells #[.int .i64 6, .int .i64 0, .int .i64 0, .int .i64 0, .int .i64 ip, .int .i64 x.kind, .int .i64 x.n, .string x.s] 29)) (.slice (some ⟨w3.heap.size + 1, 0, none⟩) 1 1) [cIns 6 ip x]) := scr_lit (w3.alloc (.cells #[.int .i64 5, .int .i64 0, .int .i64 0, .int .i64 0, .int .i64 im, .int .i64 x.kind, .int .i64 x.n, .string x.s] 29)) [cIns 6 ip x] 29 (w3.heap.size + 1) 1 (by simp) rfl (by simp [cIns]; exact XO.out)
          refine ⟨cond_keep (by decide) (HSW.out _ (HB0.out.trans ((below2 w3 _ _).mono HB0.out.size))), ?_⟩
          refine wpT_runG (i := 7) (by kernel_rfl) rfl rfl ?_
          go_simp
          refine (with_c (ns := ns) (cl := [cIns 5 im x]) (l := l) SF81.out SF82.out ⟨_, _, _, rfl⟩ (by simp; omega)).mono ?_
          rintro r W84 ⟨va85, rfl, sa86, hb87⟩
          have HB88 := Lib.hid ((HB0.out.trans ((below2 w3 _ _).mono HB0.out.size)).trans (hb87.mono ((HB0.out.trans ((below2 w3 _ _).mono HB0.out.size))).size))
          have SF89 : Hid (Scr W84 (.slice y1 ns.length y2) ns) := SF81.out.later hb87
          have SF90 : Hid (Scr W84 (.slice (some ⟨w3.heap.size + 1, 0, none⟩) 1 1) [cIns 6 ip x]) := SF83.out.later hb87
          have SF91 := Lib.hid sa86
          clear sa86 hb87
          refine ⟨cond_keep (by decide) (HSW.out _ HB88.out), ?_⟩
          refine wpT_runG (i := 13) (by kernel_rfl) rfl rfl ?_
          go_simp
          refine (with_c (ns := ns) (cl := [cIns 6 ip x]) (l := l) SF89.out SF90.out ⟨_, _, _, rfl⟩ (by simp; omega)).mono ?_
          rintro r W92 ⟨va93, rfl, sa94, hb95⟩
          have HB96 := Lib.hid ((HB88.out.trans ((Below.refl _ W84).mono HB88.out.size)).trans (hb95.mono ((HB88.out.trans ((Below.refl _ W84).mono HB88.out.size))).size))
          have SF97 : Hid (Scr W92 (.slice y1 ns.length y2) ns) := SF89.out.later hb95
          have SF98 : Hid (Scr W92 (va85) (ns ++ [cIns 5 im x].map (onL l))) := SF91.out.later hb95
          have SF99 := Lib.hid sa94
          clear sa94 hb95
          refine ⟨cond_keep (by decide) (HSW.out _ HB96.out), ?_⟩
          refine wpT_runG (i := 14) (by kernel_rfl) rfl rfl ?_
          go_simp
          refine (alike_c SF97.out SF98.out SF99.out A1.out A2.out (HL.out _) (HL.out _) (fun k _ => A3.out k) (by decide) (by omega) (by simp; omega) (by simp; omega)).mono ?_
          rintro r wf ⟨rfl, hbf⟩
          refine ⟨cond_keep (by decide) (HSW.out _ (HB96.out.trans (hbf.mono HB96.out.size))), ?_⟩
          have hbx := HB96.out.trans (hbf.mono HB96.out.size)
          have BF := Lib.hid (B3.out.trans (hbx.mono B3.out.size))
          have SN := Lib.hid (SF97.out.later hbf)
          have KC := HSW.out _ hbx
          have HKC := Lib.hid KC
          clear hbf hbx KC
          refine wpT_takeG (i := 15) (v := ?vy5_15) rfl (by kernel_rfl) (fun _ _ _ h => h) rfl ?yy5_15 ?ry5_15
          case yy5_15 => ((intro wz; go_simp); try with_reducible rfl)
          try simp only [Act.put, List.setIfInBounds_toArray, List.set_cons_zero, List.set_cons_succ]
          refine wpT_done (by kernel_rfl) ?_ _
          by_cases hie : i = im
          · subst hie
            go_wp2
            go_ret
            exact ⟨rfl, BF.out⟩
          · have qie := ne_beq' hie
            obtain ⟨d1, d2, d3⟩ := MV.out hie
            have D1 := Lib.hid d1; have D2 := Lib.hid d2; have D3 := Lib.hid d3
            clear d1 d2 d3 hie
            go_wp2_with fail
            refine wp_region_T (fun W => W.cell? ⟨w1.heap.size, 0, none⟩ = some (.slice y1 ns.length y2) ∧ W.cell? ⟨w1.heap.size, 1, none⟩ = some (.int .i64 (l : Nat)) ∧ W.cell? ⟨w1.heap.size, 2, none⟩ = some (.slice (some ⟨b1, o1, none⟩) N p1) ∧ W.cell? ⟨w.heap.size, 0, none⟩ = some (.int .i64 x.kind) ∧ W.cell? ⟨w.heap.size, 1, none⟩ = some (.int .i64 x.n) ∧ W.cell? ⟨w.heap.size, 2, none⟩ = some (.string x.s)) [8, 9, 14, 15, 16] [] run_mixed ?_
            simp only [List.size_toArray, List.length_cons, List.length_nil]
            have hb23 : Below wf.heap.size wf wf.drew := (Below.refl _ _).drew
            have S5 : Hid (Scr wf.drew (.slice y1 ns.length y2) ns) := SN.out.later hb23
            have HS5 : (fun W => W.cell? ⟨w1.heap.size, 0, none⟩ = some (.slice y1 ns.length y2) ∧ W.cell? ⟨w1.heap.size, 1, none⟩ = some (.int .i64 (l : Nat)) ∧ W.cell? ⟨w1.heap.size, 2, none⟩ = some (.slice (some ⟨b1, o1, none⟩) N p1) ∧ W.cell? ⟨w.heap.size, 0, none⟩ = some (.int .i64 x.kind) ∧ W.cell? ⟨w.heap.size, 1, none⟩ = some (.int .i64 x.n) ∧ W.cell? ⟨w.heap.size, 2, none⟩ = some (.string x.s)) wf.drew := HKC.out
            have B5 := Lib.hid (BF.out.trans (hb23.mono BF.out.size))
            clear B3 HSW HB0 HS
            have B3 := B5
            generalize wf.drew = w5 at *
            have HSW : Hid (∀ W, Below w5.heap.size w5 W → (fun W => W.cell? ⟨w1.heap.size, 0, none⟩ = some (.slice y1 ns.length y2) ∧ W.cell? ⟨w1.heap.size, 1, none⟩ = some (.int .i64 (l : Nat)) ∧ W.cell? ⟨w1.heap.size, 2, none⟩ = some (.slice (some ⟨b1, o1, none⟩) N p1) ∧ W.cell? ⟨w.heap.size, 0, none⟩ = some (.int .i64 x.kind) ∧ W.cell? ⟨w.heap.size, 1, none⟩ = some (.int .i64 x.n) ∧ W.cell? ⟨w.heap.size, 2, none⟩ = some (.string x.s)) W) := fun W hb => ⟨(hb.cell (p := ⟨w1.heap.size, 0, none⟩) (World.block_lt_of_cell? w5 _ HS5.1)).trans HS5.1, (hb.cell (p := ⟨w1.heap.size, 1, none⟩) (World.block_lt_of_cell? w5 _ HS5.2.1)).trans HS5.2.1, (hb.cell (p := ⟨w1.heap.size, 2, none⟩) (World.block_lt_of_cell? w5 _ HS5.2.2.1)).trans HS5.2.2.1, (hb.cell (p := ⟨w.heap.size, 0, none⟩) (World.block_lt_of_cell? w5 _ HS5.2.2.2.1)).trans HS5.2.2.2.1, (hb.cell (p := ⟨w.heap.size, 1, none⟩) (World.block_lt_of_cell? w5 _ HS5.2.2.2.2.1)).trans HS5.2.2.2.2.1, (hb.cell (p := ⟨w.heap.size, 2, none⟩) (World.block_lt_of_cell? w5 _ HS5.2.2.2.2.2)).trans HS5.2.2.2.2.2⟩
            have HB0 := Lib.hid (Below.refl w5.heap.size w5)
            have HS := HSW.out w5 HB0.out
            clear hb23 HS5
            refine wpT_takeG (i := 0) (v := ?vb5_0) rfl (by kernel_rfl) (fun _ _ _ h => h) rfl ?yb5_0 ?rb5_0
            case yb5_0 => ((intro wz; go_simp); try with_reducible rfl)
            try simp only [Act.put, List.setIfInBounds_toArray, List.set_cons_zero, List.set_cons_succ]
            refine wpT_takeG (i := 1) (v := ?vb5_1) rfl (by kernel_rfl) (fun _ _ _ h => h) rfl ?yb5_1 ?rb5_1
            case yb5_1 => ((intro wz; go_simp); try with_reducible rfl)
            try simp only [Act.put, List.setIfInBounds_toArray, List.set_cons_zero, List.set_cons_succ]
            refine wpT_takeG (i := 2) (v := ?vb5_2) rfl (by kernel_rfl) (fun _ _ _ h => h) rfl ?yb5_2 ?rb5_2
            case yb5_2 => ((intro wz; go_simp); try with_reducible rfl)
            try simp only [Act.put, List.setIfInBounds_toArray, List.set_cons_zero, List.set_cons_succ]
            refine wpT_loadG (i := 3) (v := ?vb5_3) rfl (by kernel_rfl) (fun _ _ _ h => h) rfl ?yb5_3 HS ?rb5_3
            case yb5_3 => ((intro wz hSw; (try dsimp only at hSw); go_split_ands; go_simp); try with_reducible rfl)
            try simp only [Act.put, List.setIfInBounds_toArray, List.set_cons_zero, List.set_cons_succ]
            refine wpT_loadG (i := 4) (v := ?vb5_4) rfl (by kernel_rfl) (fun _ _ _ h => h) rfl ?yb5_4 HS ?rb5_4
            case yb5_4 => ((intro wz hSw; (try dsimp only at hSw); go_split_ands; go_simp); try with_reducible rfl)
            try simp only [Act.put, List.setIfInBounds_toArray, List.set_cons_zero, List.set_cons_succ]
            refine wpT_takeG (i := 5) (v := ?vb5_5) rfl (by kernel_rfl) (fun _ _ _ h => h) rfl ?yb5_5 ?rb5_5
            case yb5_5 => ((intro wz; go_simp); try with_reducible rfl)
            try simp only [Act.put, List.setIfInBounds_toArray, List.set_cons_zero, List.set_cons_succ]
            refine wpT_takeG (i := 6) (v := ?vb5_6) rfl (by kernel_rfl) (fun _ _ _ h => h) rfl ?yb5_6 ?rb5_6
            case yb5_6 => ((intro wz; go_simp); try with_reducible rfl)
            try simp only [Act.put, List.setIfInBounds_toArray, List.set_cons_zero, List.set_cons_succ]
            refine wpT_takeG (i := 7) (v := ?vb5_7) rfl (by kernel_rfl) (fun _ _ _ h => h) rfl ?yb5_7 ?rb5_7
            case yb5_7 => ((intro wz; go_simp); try with_reducible rfl)
            try simp only [Act.put, List.setIfInBounds_toArray, List.set_cons_zero, List.set_cons_succ]
            refine wpT_loadG (i := 10) (v := ?vb5_10) rfl (by kernel_rfl) (fun _ _ _ h => h) rfl ?yb5_10 HS ?rb5_10
            case yb5_10 => ((intro wz hSw; (try dsimp only at hSw); go_split_ands; go_simp); try with_reducible rfl)
            try simp only [Act.put, List.setIfInBounds_toArray, List.set_cons_zero, List.set_cons_succ]
            refine wpT_takeG (i := 11) (v := ?vb5_11) rfl (by kernel_rfl) (fun _ _ _ h => h) rfl ?yb5_11 ?rb5_11
            case yb5_11 => ((intro wz; go_simp); try with_reducible rfl)
            try simp only [Act.put, List.setIfInBounds_toArray, List.set_cons_zero, List.set_cons_succ]
            refine wpT_takeG (i := 12) (v := ?vb5_12) rfl (by kernel_rfl) (fun _ _ _ h => h) rfl ?yb5_12 ?rb5_12
            case yb5_12 => ((intro wz; go_simp); try with_reducible rfl)
            try simp only [Act.put, List.setIfInBounds_toArray, List.set_cons_zero, List.set_cons_succ]
            refine wpT_takeG (i := 13) (v := ?vb5_13) rfl (by kernel_rfl) (fun _ _ _ h => h) rfl ?yb5_13 ?rb5_13
            case yb5_13 => ((intro wz; go_simp); try with_reducible rfl)
            try simp only [Act.put, List.setIfInBounds_toArray, List.set_cons_zero, List.set_cons_succ]
            refine wpT_two (i := 8) (j := 14) (by kernel_rfl) rfl rfl rfl rfl ?_ ?_
            · go_simp
              have SF100 : Hid (Scr (w5.alloc (.cells #[.int .i64 9, .int .i64 0, .int .i64 0, .int .i64 i, .int .i64 im, .int .i64 0, .int .i64 0, .string ⟨#[]⟩] 29)) (.slice y1 ns.length y2) ns) := S5.out.later (below1 _ _)
              have SF101 : Hid (Scr (w5.alloc (.cells #[.int .i64 9, .int .i64 0, .int .i64 0, .int .i64 i, .int .i64 im, .int .i64 0, .int .i64 0, .string ⟨#[]⟩] 29)) (.slice (some ⟨w5.heap.size, 0, none⟩) 1 1) [cMv 9 i im]) := scr_lit w5 [cMv 9 i im] 29 (w5.heap.size) 1 (by simp) rfl (by simp [cMv]; exact vl_zero_ok)
              refine ⟨cond_keep (by decide) (HSW.out _ (HB0.out.trans ((below1 w5 _).mono HB0.out.size))), ?_⟩
              refine wpT_two (i := 9) (j := 14) (by kernel_rfl) rfl rfl rfl rfl ?_ ?_
              · go_simp
                refine (with_c (ns := ns) (cl := [cMv 9 i im]) (l := l) SF100.out SF101.out ⟨_, _, _, rfl⟩ (by simp; omega)).mono ?_
                rintro r W102 ⟨va103, rfl, sa104, hb105⟩
                have HB106 := Lib.hid ((HB0.out.trans ((below1 w5 _).mono HB0.out.size)).trans (hb105.mono ((HB0.out.trans ((below1 w5 _).mono HB0.out.size))).size))
                have SF107 : Hid (Scr W102 (.slice y1 ns.length y2) ns) := SF100.out.later hb105
                have SF108 := Lib.hid sa104
                clear sa104 hb105
                refine ⟨cond_keep (by decide) (HSW.out _ HB106.out), ?_⟩
                refine wpT_runG (i := 14) (by kernel_rfl) rfl rfl ?_
                go_simp
                have SF109 : Hid (Scr (W102.alloc (.cells #[.int .i64 10, .int .i64 0, .int .i64 0, .int .i64 i, .int .i64 ip, .int .i64 0, .int .i64 0, .string ⟨#[]⟩] 29)) (.slice y1 ns.length y2) ns) := SF107.out.later (below1 _ _)
                have SF110 : Hid (Scr (W102.alloc (.cells #[.int .i64 10, .int .i64 0, .int .i64 0, .int .i64 i, .int .i64 ip, .int .i64 0, .int .i64 0, .string ⟨#[]⟩] 29)) (va103) (ns ++ [cMv 9 i im].map (onL l))) := SF108.out.later (below1 _ _)
                have SF111 : Hid (Scr (W102.alloc (.cells #[.int .i64 10, .int .i64 0, .int .i64 0, .int .i64 i, .int .i64 ip, .int .i64 0, .int .i64 0, .string ⟨#[]⟩] 29)) (.slice (some ⟨W102.heap.size, 0, none⟩) 1 1) [cMv 10 i ip]) := scr_lit W102 [cMv 10 i ip] 29 (W102.heap.size) 1 (by simp) rfl (by simp [cMv]; exact vl_zero_ok)
                refine ⟨cond_keep (by decide) (HSW.out _ (HB106.out.trans ((below1 W102 _).mono HB106.out.size))), ?_⟩
                refine wpT_runG (i := 15) (by kernel_rfl) rfl rfl ?_
                go_simp
                refine (with_c (ns := ns) (cl := [cMv 10 i ip]) (l := l) SF109.out SF111.out ⟨_, _, _, rfl⟩ (by simp; omega)).mono ?_
                rintro r W112 ⟨va113, rfl, sa114, hb115⟩
                have HB116 := Lib.hid ((HB106.out.trans ((below1 W102 _).mono HB106.out.size)).trans (hb115.mono ((HB106.out.trans ((below1 W102 _).mono HB106.out.size))).size))
                have SF117 : Hid (Scr W112 (.slice y1 ns.length y2) ns) := SF109.out.later hb115
                have SF118 : Hid (Scr W112 (va103) (ns ++ [cMv 9 i im].map (onL l))) := SF110.out.later hb115
                have SF119 := Lib.hid sa114
                clear sa114 hb115
                refine ⟨cond_keep (by decide) (HSW.out _ HB116.out), ?_⟩
                refine wpT_runG (i := 16) (by kernel_rfl) rfl rfl ?_
                go_simp
                refine (alike_c SF117.out SF118.out SF119.out D1.out D2.out (HL.out _) (HL.out _) (fun k _ => D3.out k) (by decide) (by omega) (by simp; omega) (by simp; omega)).mono ?_
                rintro r wf ⟨rfl, hbf⟩
                refine ⟨cond_keep (by decide) (HSW.out _ (HB116.out.trans (hbf.mono HB116.out.size))), ?_⟩
                have BF := Lib.hid (B3.out.trans ((HB116.out.trans (hbf.mono HB116.out.size)).mono B3.out.size))
                clear hbf
                refine wpT_takeG (i := 17) (v := ?vz6_17) rfl (by kernel_rfl) (fun _ _ _ h => h) rfl ?yz6_17 ?rz6_17
                case yz6_17 => ((intro wz; go_simp); try with_reducible rfl)
                try simp only [Act.put, List.setIfInBounds_toArray, List.set_cons_zero, List.set_cons_succ]
                refine wpT_takeG (i := 18) (v := ?vz6_18) rfl (by kernel_rfl) (fun _ _ _ h => h) rfl ?yz6_18 ?rz6_18
                case yz6_18 => ((intro wz; go_simp); try with_reducible rfl)
                try simp only [Act.put, List.setIfInBounds_toArray, List.set_cons_zero, List.set_cons_succ]
                refine wpT_done (by kernel_rfl) ?_ _
                go_wp2
                go_ret
                exact ⟨rfl, BF.out⟩
              · go_simp
                have SF120 : Hid (Scr ((w5.alloc (.cells #[.int .i64 9, .int .i64 0, .int .i64 0, .int .i64 i, .int .i64 im, .int .i64 0, .int .i64 0, .string ⟨#[]⟩] 29)).alloc (.cells #[.int .i64 10, .int .i64 0, .int .i64 0, .int .i64 i, .int .i64 ip, .int .i64 0, .int .i64 0, .string ⟨#[]⟩] 29)) (.slice y1 ns.length y2) ns) := SF100.out.later (below1 _ _)
                have SF121 : Hid (Scr ((w5.alloc (.cells #[.int .i64 9, .int .i64 0, .int .i64 0, .int .i64 i, .int .i64 im, .int .i64 0, .int .i64 0, .string ⟨#[]⟩] 29)).alloc (.cells #[.int .i64 10, .int .i64 0, .int .i64 0, .int .i64 i, .int .i64 ip, .int .i64 0, .int .i64 0, .string ⟨#[]⟩] 29)) (.slice (some ⟨w5.heap.size, 0, none⟩) 1 1) [cMv 9 i im]) := SF101.out.later (below1 _ _)
                have SF122 : Hid (Scr ((w5.alloc (.cells #[.int .i64 9, .int .i64 0, .int .i64 0, .int .i64 i, .int .i64 im, .int .i64 0, .int .i64 0, .string ⟨#[]⟩] 29)).alloc (.cells #[.int .i64 10, .int .i64 0, .int .i64 0, .int .i64 i, .int .i64 ip, .int .i64 0, .int .i64 0, .string ⟨#[]⟩] 29)) (.slice (some ⟨w5.heap.size + 1, 0, none⟩) 1 1) [cMv 10 i ip]) := scr_lit (w5.alloc (.cells #[.int .i64 9, .int .i64 0, .int .i64 0, .int .i64 i, .int .i64 im, .int .i64 0, .int .i64 0, .string ⟨#[]⟩] 29)) [cMv 10 i ip] 29 (w5.heap.size + 1) 1 (by simp) rfl (by simp [cMv]; exact vl_zero_ok)
                refine ⟨cond_keep (by decide) (HSW.out _ (HB0.out.trans ((below2 w5 _ _).mono HB0.out.size))), ?_⟩
                refine wpT_runG (i := 9) (by kernel_rfl) rfl rfl ?_
                go_simp
                refine (with_c (ns := ns) (cl := [cMv 9 i im]) (l := l) SF120.out SF121.out ⟨_, _, _, rfl⟩ (by simp; omega)).mono ?_
                rintro r W123 ⟨va124, rfl, sa125, hb126⟩
                have HB127 := Lib.hid ((HB0.out.trans ((below2 w5 _ _).mono HB0.out.size)).trans (hb126.mono ((HB0.out.trans ((below2 w5 _ _).mono HB0.out.size))).size))
                have SF128 : Hid (Scr W123 (.slice y1 ns.length y2) ns) := SF120.out.later hb126
                have SF129 : Hid (Scr W123 (.slice (some ⟨w5.heap.size + 1, 0, none⟩) 1 1) [cMv 10 i ip]) := SF122.out.later hb126
                have SF130 := Lib.hid sa125
                clear sa125 hb126
                refine ⟨cond_keep (by decide) (HSW.out _ HB127.out), ?_⟩
                refine wpT_runG (i := 15) (by kernel_rfl) rfl rfl ?_
                go_simp
                refine (with_c (ns := ns) (cl := [cMv 10 i ip]) (l := l) SF128.out SF129.out ⟨_, _, _, rfl⟩ (by simp; omega)).mono ?_
                rintro r W131 ⟨va132, rfl, sa133, hb134⟩
                have HB135 := Lib.hid ((HB127.out.trans ((Below.refl _ W123).mono HB127.out.size)).trans (hb134.mono ((HB127.out.trans ((Below.refl _ W123).mono HB127.out.size))).size))
                have SF136 : Hid (Scr W131 (.slice y1 ns.length y2) ns) := SF128.out.later hb134
                have SF137 : Hid (Scr W131 (va124) (ns ++ [cMv 9 i im].map (onL l))) := SF130.out.later hb134
                have SF138 := Lib.hid sa133
                clear sa133 hb134
                refine ⟨cond_keep (by decide) (HSW.out _ HB135.out), ?_⟩
                refine wpT_runG (i := 16) (by kernel_rfl) rfl rfl ?_
                go_simp
                refine (alike_c SF136.out SF137.out SF138.out D1.out D2.out (HL.out _) (HL.out _) (fun k _ => D3.out k) (by decide) (by omega) (by simp; omega) (by simp; omega)).mono ?_
                rintro r wf ⟨rfl, hbf⟩
                refine ⟨cond_keep (by decide) (HSW.out _ (HB135.out.trans (hbf.mono HB135.out.size))), ?_⟩
                have BF := Lib.hid (B3.out.trans ((HB135.out.trans (hbf.mono HB135.out.size)).mono B3.out.size))
                clear hbf
                refine wpT_takeG (i := 17) (v := ?vz7_17) rfl (by kernel_rfl) (fun _ _ _ h => h) rfl ?yz7_17 ?rz7_17
                case yz7_17 => ((intro wz; go_simp); try with_reducible rfl)
                try simp only [Act.put, List.setIfInBounds_toArray, List.set_cons_zero, List.set_cons_succ]
                refine wpT_takeG (i := 18) (v := ?vz7_18) rfl (by kernel_rfl) (fun _ _ _ h => h) rfl ?yz7_18 ?rz7_18
                case yz7_18 => ((intro wz; go_simp); try with_reducible rfl)
                try simp only [Act.put, List.setIfInBounds_toArray, List.set_cons_zero, List.set_cons_succ]
                refine wpT_done (by kernel_rfl) ?_ _
                go_wp2
                go_ret
                exact ⟨rfl, BF.out⟩
            · go_simp
              have SF139 : Hid (Scr (w5.alloc (.cells #[.int .i64 10, .int .i64 0, .int .i64 0, .int .i64 i, .int .i64 ip, .int .i64 0, .int .i64 0, .string ⟨#[]⟩] 29)) (.slice y1 ns.length y2) ns) := S5.out.later (below1 _ _)
              have SF140 : Hid (Scr (w5.alloc (.cells #[.int .i64 10, .int .i64 0, .int .i64 0, .int .i64 i, .int .i64 ip, .int .i64 0, .int .i64 0, .string ⟨#[]⟩] 29)) (.slice (some ⟨w5.heap.size, 0, none⟩) 1 1) [cMv 10 i ip]) := scr_lit w5 [cMv 10 i ip] 29 (w5.heap.size) 1 (by simp) rfl (by simp [cMv]; exact vl_zero_ok)
              refine ⟨cond_keep (by decide) (HSW.out _ (HB0.out.trans ((below1 w5 _).mono HB0.out.size))), ?_⟩
              refine wpT_runG (i := 8) (by kernel_rfl) rfl rfl ?_
              go_simp
              have SF141 : Hid (Scr ((w5.alloc (.cells #[.int .i64 10, .int .i64 0, .int .i64 0, .int .i64 i, .int .i64 ip, .int .i64 0, .int .i64 0, .string ⟨#[]⟩] 29)).alloc (.cells #[.int .i64 9, .int .i64 0, .int .i64 0, .int .i64 i, .int .i64 im, .int .i64 0, .int .i64 0, .string ⟨#[]⟩] 29)) (.slice y1 ns.length y2) ns) := SF139.out.later (below1 _ _)
              have SF142 : Hid (Scr ((w5.alloc (.cells #[.int .i64 10, .int .i64 0, .int .i64 0, .int .i64 i, .int .i64 ip, .int .i64 0, .int .i64 0, .string ⟨#[]⟩] 29)).alloc (.cells #[.int .i64 9, .int .i64 0, .int .i64 0, .int .i64 i, .int .i64 im, .int .i64 0, .int .i64 0, .string ⟨#[]⟩] 29)) (.slice (some ⟨w5.heap.size, 0, none⟩) 1 1) [cMv 10 i ip]) := SF140.out.later (below1 _ _)
              have SF143 : Hid (Scr ((w5.alloc (.cells #[.int .i64 10, .int .i64 0, .int .i64 0, .int .i64 i, .int .i64 ip, .int .i64 0, .int .i64 0, .string ⟨#[]⟩] 29)).alloc (.cells #[.int .i64 9, .int .i64 0, .int .i64 0, .int .i64 i, .int .i64 im, .int .i64 0, .int .i64 0, .string ⟨#[]⟩] 29)) (.slice (some ⟨w5.heap.size + 1, 0, none⟩) 1 1) [cMv 9 i im]) := scr_lit (w5.alloc (.cells #[.int .i64 10, .int .i64 0, .int .i64 0, .int .i64 i, .int .i64 ip, .int .i64 0, .int .i64 0, .string ⟨#[]⟩] 29)) [cMv 9 i im] 29 (w5.heap.size + 1) 1 (by simp) rfl (by simp [cMv]; exact vl_zero_ok)
              refine ⟨cond_keep (by decide) (HSW.out _ (HB0.out.trans ((below2 w5 _ _).mono HB0.out.size))), ?_⟩
              refine wpT_runG (i := 9) (by kernel_rfl) rfl rfl ?_
              go_simp
              refine (with_c (ns := ns) (cl := [cMv 9 i im]) (l := l) SF141.out SF143.out ⟨_, _, _, rfl⟩ (by simp; omega)).mono ?_
              rintro r W144 ⟨va145, rfl, sa146, hb147⟩
              have HB148 := Lib.hid ((HB0.out.trans ((below2 w5 _ _).mono HB0.out.size)).trans (hb147.mono ((HB0.out.trans ((below2 w5 _ _).mono HB0.out.size))).size))
              have SF149 : Hid (Scr W144 (.slice y1 ns.length y2) ns) := SF141.out.later hb147
              have SF150 : Hid (Scr W144 (.slice (some ⟨w5.heap.size, 0, none⟩) 1 1) [cMv 10 i ip]) := SF142.out.later hb147
              have SF151 := Lib.hid sa146
              clear sa146 hb147
              refine ⟨cond_keep (by decide) (HSW.out _ HB148.out), ?_⟩
              refine wpT_runG (i := 15) (by kernel_rfl) rfl rfl ?_
              go_simp
              refine (with_c (ns := ns) (cl := [cMv 10 i ip]) (l := l) SF149.out SF150.out ⟨_, _, _, rfl⟩ (by simp; omega)).mono ?_
              rintro r W152 ⟨va153, rfl, sa154, hb155⟩
              have HB156 := Lib.hid ((HB148.out.trans ((Below.refl _ W144).mono HB148.out.size)).trans (hb155.mono ((HB148.out.trans ((Below.refl _ W144).mono HB148.out.size))).size))
              have SF157 : Hid (Scr W152 (.slice y1 ns.length y2) ns) := SF149.out.later hb155
              have SF158 : Hid (Scr W152 (va145) (ns ++ [cMv 9 i im].map (onL l))) := SF151.out.later hb155
              have SF159 := Lib.hid sa154
              clear sa154 hb155
              refine ⟨cond_keep (by decide) (HSW.out _ HB156.out), ?_⟩
              refine wpT_runG (i := 16) (by kernel_rfl) rfl rfl ?_
              go_simp
              refine (alike_c SF157.out SF158.out SF159.out D1.out D2.out (HL.out _) (HL.out _) (fun k _ => D3.out k) (by decide) (by omega) (by simp; omega) (by simp; omega)).mono ?_
              rintro r wf ⟨rfl, hbf⟩
              refine ⟨cond_keep (by decide) (HSW.out _ (HB156.out.trans (hbf.mono HB156.out.size))), ?_⟩
              have BF := Lib.hid (B3.out.trans ((HB156.out.trans (hbf.mono HB156.out.size)).mono B3.out.size))
              clear hbf
              refine wpT_takeG (i := 17) (v := ?vz8_17) rfl (by kernel_rfl) (fun _ _ _ h => h) rfl ?yz8_17 ?rz8_17
              case yz8_17 => ((intro wz; go_simp); try with_reducible rfl)
              try simp only [Act.put, List.setIfInBounds_toArray, List.set_cons_zero, List.set_cons_succ]
              refine wpT_takeG (i := 18) (v := ?vz8_18) rfl (by kernel_rfl) (fun _ _ _ h => h) rfl ?yz8_18 ?rz8_18
              case yz8_18 => ((intro wz; go_simp); try with_reducible rfl)
              try simp only [Act.put, List.setIfInBounds_toArray, List.set_cons_zero, List.set_cons_succ]
              refine wpT_done (by kernel_rfl) ?_ _
              go_wp2
              go_ret
              exact ⟨rfl, BF.out⟩
      · go_simp
        have SF160 : Hid (Scr (w3.alloc (.cells #[.int .i64 6, .int .i64 0, .int .i64 0, .int .i64 0, .int .i64 ip, .int .i64 x.kind, .int .i64 x.n, .string x.s] 29)) (.slice y1 ns.length y2) ns) := S3.out.later (below1 _ _)
        have SF161 : Hid (Scr (w3.alloc (.cells #[.int .i64 6, .int .i64 0, .int .i64 0, .int .i64 0, .int .i64 ip, .int .i64 x.kind, .int .i64 x.n, .string x.s] 29)) (.slice (some ⟨w3.heap.size, 0, none⟩) 1 1) [cIns 6 ip x]) := scr_lit w3 [cIns 6 ip x] 29 (w3.heap.size) 1 (by simp) rfl (by simp [cIns]; exact XO.out)
        refine ⟨cond_keep (by decide) (HSW.out _ (HB0.out.trans ((below1 w3 _).mono HB0.out.size))), ?_⟩
        refine wpT_runG (i := 6) (by kernel_rfl) rfl rfl ?_
        go_simp
        have SF162 : Hid (Scr ((w3.alloc (.cells #[.int .i64 6, .int .i64 0, .int .i64 0, .int .i64 0, .int .i64 ip, .int .i64 x.kind, .int .i64 x.n, .string x.s] 29)).alloc (.cells #[.int .i64 5, .int .i64 0, .int .i64 0, .int .i64 0, .int .i64 im, .int .i64 x.kind, .int .i64 x.n, .string x.s] 29)) (.slice y1 ns.length y2) ns) := SF160.out.later (below1 _ _)
        have SF163 : Hid (Scr ((w3.alloc (.cells #[.int .i64 6, .int .i64 0, .int .i64 0, .int .i64 0, .int .i64 ip, .int .i64 x.kind, .int .i64 x.n, .string x.s] 29)).alloc (.cells #[.int .i64 5, .int .i64 0, .int .i64 0, .int .i64 0, .int .i64 im, .int .i64 x.kind, .int .i64 x.n, .string x.s] 29)) (.slice (some ⟨w3.heap.size, 0, none⟩) 1 1) [cIns 6 ip x]) := SF161.out.later (below1 _ _)
        have SF164 : Hid (Scr ((w3.alloc (.cells #[.int .i64 6, .int .i64 0, .int .i64 0, .int .i64 0, .int .i64 ip, .int .i64 x.kind, .int .i64 x.n, .string x.s] 29)).alloc (.cells #[.int .i64 5, .int .i64 0, .int .i64 0, .int .i64 0, .int .i64 im, .int .i64 x.kind, .int .i64 x.n, .string x.s] 29)) (.slice (some ⟨w3.heap.size + 1, 0, none⟩) 1 1) [cIns 5 im x]) := scr_lit (w3.alloc (.cells #[.int .i64 6, .int .i64 0, .int .i64 0, .int .i64 0, .int .i64 ip, .int .i64 x.kind, .int .i64 x.n, .string x.s] 29)) [cIns 5 im x] 29 (w3.heap.size + 1) 1 (by simp) rfl (by simp [cIns]; exact XO.out)
        refine ⟨cond_keep (by decide) (HSW.out _ (HB0.out.trans ((below2 w3 _ _).mono HB0.out.size))), ?_⟩
        refine wpT_runG (i := 7) (by kernel_rfl) rfl rfl ?_
        go_simp
        refine (with_c (ns := ns) (cl := [cIns 5 im x]) (l := l) SF162.out SF164.out ⟨_, _, _, rfl⟩ (by simp; omega)).mono ?_
        rintro r W165 ⟨va166, rfl, sa167, hb168⟩
        have HB169 := Lib.hid ((HB0.out.trans ((below2 w3 _ _).mono HB0.out.size)).trans (hb168.mono ((HB0.out.trans ((below2 w3 _ _).mono HB0.out.size))).size))
        have SF170 : Hid (Scr W165 (.slice y1 ns.length y2) ns) := SF162.out.later hb168
        have SF171 : Hid (Scr W165 (.slice (some ⟨w3.heap.size, 0, none⟩) 1 1) [cIns 6 ip x]) := SF163.out.later hb168
        have SF172 := Lib.hid sa167
        clear sa167 hb168
        refine ⟨cond_keep (by decide) (HSW.out _ HB169.out), ?_⟩
        refine wpT_runG (i := 13) (by kernel_rfl) rfl rfl ?_
        go_simp
        refine (with_c (ns := ns) (cl := [cIns 6 ip x]) (l := l) SF170.out SF171.out ⟨_, _, _, rfl⟩ (by simp; omega)).mono ?_
        rintro r W173 ⟨va174, rfl, sa175, hb176⟩
        have HB177 := Lib.hid ((HB169.out.trans ((Below.refl _ W165).mono HB169.out.size)).trans (hb176.mono ((HB169.out.trans ((Below.refl _ W165).mono HB169.out.size))).size))
        have SF178 : Hid (Scr W173 (.slice y1 ns.length y2) ns) := SF170.out.later hb176
        have SF179 : Hid (Scr W173 (va166) (ns ++ [cIns 5 im x].map (onL l))) := SF172.out.later hb176
        have SF180 := Lib.hid sa175
        clear sa175 hb176
        refine ⟨cond_keep (by decide) (HSW.out _ HB177.out), ?_⟩
        refine wpT_runG (i := 14) (by kernel_rfl) rfl rfl ?_
        go_simp
        refine (alike_c SF178.out SF179.out SF180.out A1.out A2.out (HL.out _) (HL.out _) (fun k _ => A3.out k) (by decide) (by omega) (by simp; omega) (by simp; omega)).mono ?_
        rintro r wf ⟨rfl, hbf⟩
        refine ⟨cond_keep (by decide) (HSW.out _ (HB177.out.trans (hbf.mono HB177.out.size))), ?_⟩
        have hbx := HB177.out.trans (hbf.mono HB177.out.size)
        have BF := Lib.hid (B3.out.trans (hbx.mono B3.out.size))
        have SN := Lib.hid (SF178.out.later hbf)
        have KC := HSW.out _ hbx
        have HKC := Lib.hid KC
        clear hbf hbx KC
        refine wpT_takeG (i := 15) (v := ?vy9_15) rfl (by kernel_rfl) (fun _ _ _ h => h) rfl ?yy9_15 ?ry9_15
        case yy9_15 => ((intro wz; go_simp); try with_reducible rfl)
        try simp only [Act.put, List.setIfInBounds_toArray, List.set_cons_zero, List.set_cons_succ]
        refine wpT_done (by kernel_rfl) ?_ _
        by_cases hie : i = im
        · subst hie
          go_wp2
          go_ret
          exact ⟨rfl, BF.out⟩
        · have qie := ne_beq' hie
          obtain ⟨d1, d2, d3⟩ := MV.out hie
          have D1 := Lib.hid d1; have D2 := Lib.hid d2; have D3 := Lib.hid d3
          clear d1 d2 d3 hie
          go_wp2_with fail
          refine wp_region_T (fun W => W.cell? ⟨w1.heap.size, 0, none⟩ = some (.slice y1 ns.length y2) ∧ W.cell? ⟨w1.heap.size, 1, none⟩ = some (.int .i64 (l : Nat)) ∧ W.cell? ⟨w1.heap.size, 2, none⟩ = some (.slice (some ⟨b1, o1, none⟩) N p1) ∧ W.cell? ⟨w.heap.size, 0, none⟩ = some (.int .i64 x.kind) ∧ W.cell? ⟨w.heap.size, 1, none⟩ = some (.int .i64 x.n) ∧ W.cell? ⟨w.heap.size, 2, none⟩ = some (.string x.s)) [8, 9, 14, 15, 16] [] run_mixed ?_
          simp only [List.size_toArray, List.length_cons, List.length_nil]
          have hb23 : Below wf.heap.size wf wf.drew := (Below.refl _ _).drew
          have S5 : Hid (Scr wf.drew (.slice y1 ns.length y2) ns) := SN.out.later hb23
          have HS5 : (fun W => W.cell? ⟨w1.heap.size, 0, none⟩ = some (.slice y1 ns.length y2) ∧ W.cell? ⟨w1.heap.size, 1, none⟩ = some (.int .i64 (l : Nat)) ∧ W.cell? ⟨w1.heap.size, 2, none⟩ = some (.slice (some ⟨b1, o1, none⟩) N p1) ∧ W.cell? ⟨w.heap.size, 0, none⟩ = some (.int .i64 x.kind) ∧ W.cell? ⟨w.heap.size, 1, none⟩ = some (.int .i64 x.n) ∧ W.cell? ⟨w.heap.size, 2, none⟩ = some (.string x.s)) wf.drew := HKC.out
          have B5 := Lib.hid (BF.out.trans (hb23.mono BF.out.size))
          clear B3 HSW HB0 HS
          have B3 := B5
          generalize wf.drew = w5 at *
          have HSW : Hid (∀ W, Below w5.heap.size w5 W → (fun W => W.cell? ⟨w1.heap.size, 0, none⟩ = some (.slice y1 ns.length y2) ∧ W.cell? ⟨w1.heap.size, 1, none⟩ = some (.int .i64 (l : Nat)) ∧ W.cell? ⟨w1.heap.size, 2, none⟩ = some (.slice (some ⟨b1, o1, none⟩) N p1) ∧ W.cell? ⟨w.heap.size, 0, none⟩ = some (.int .i64 x.kind) ∧ W.cell? ⟨w.heap.size, 1, none⟩ = some (.int .i64 x.n) ∧ W.cell? ⟨w.heap.size, 2, none⟩ = some (.string x.s)) W) := fun W hb => ⟨(hb.cell (p := ⟨w1.heap.size, 0, none⟩) (World.block_lt_of_cell? w5 _ HS5.1)).trans HS5.1, (hb.cell (p := ⟨w1.heap.size, 1, none⟩) (World.block_lt_of_cell? w5 _ HS5.2.1)).trans HS5.2.1, (hb.cell (p := ⟨w1.heap.size, 2, none⟩) (World.block_lt_of_cell? w5 _ HS5.2.2.1)).trans HS5.2.2.1, (hb.cell (p := ⟨w.heap.size, 0, none⟩) (World.block_lt_of_cell? w5 _ HS5.2.2.2.1)).trans HS5.2.2.2.1, (hb.cell (p := ⟨w.heap.size, 1, none⟩) (World.block_lt_of_cell? w5 _ HS5.2.2.2.2.1)).trans HS5.2.2.2.2.1, (hb.cell (p := ⟨w.heap.size, 2, none⟩) (World.block_lt_of_cell? w5 _ HS5.2.2.2.2.2)).trans HS5.2.2.2.2.2⟩
          have HB0 := Lib.hid (Below.refl w5.heap.size w5)
          have HS := HSW.out w5 HB0.out
          clear hb23 HS5
          refine wpT_takeG (i := 0) (v := ?vb9_0) rfl (by kernel_rfl) (fun _ _ _ h => h) rfl ?yb9_0 ?rb9_0
          case yb9_0 => ((intro wz; go_simp); try with_reducible rfl)
          try simp only [Act.put, List.setIfInBounds_toArray, List.set_cons_zero, List.set_cons_succ]
          refine wpT_takeG (i := 1) (v := ?vb9_1) rfl (by kernel_rfl) (fun _ _ _ h => h) rfl ?yb9_1 ?rb9_1
          case yb9_1 => ((intro wz; go_simp); try with_reducible rfl)
          try simp only [Act.put, List.setIfInBounds_toArray, List.set_cons_zero, List.set_cons_succ]
          refine wpT_takeG (i := 2) (v := ?vb9_2) rfl (by kernel_rfl) (fun _ _ _ h => h) rfl ?yb9_2 ?rb9_2
          case yb9_2 => ((intro wz; go_simp); try with_reducible rfl)
          try simp only [Act.put, List.setIfInBounds_toArray, List.set_cons_zero, List.set_cons_succ]
          refine wpT_loadG (i := 3) (v := ?vb9_3) rfl (by kernel_rfl) (fun _ _ _ h => h) rfl ?yb9_3 HS ?rb9_3
          case yb9_3 => ((intro wz hSw; (try dsimp only at hSw); go_split_ands; go_simp); try with_reducible rfl)
          try simp only [Act.put, List.setIfInBounds_toArray, List.set_cons_zero, List.set_cons_succ]
          refine wpT_loadG (i := 4) (v := ?vb9_4) rfl (by kernel_rfl) (fun _ _ _ h => h) rfl ?yb9_4 HS ?rb9_4
          case yb9_4 => ((intro wz hSw; (try dsimp only at hSw); go_split_ands; go_simp); try with_reducible rfl)
          try simp only [Act.put, List.setIfInBounds_toArray, List.set_cons_zero, List.set_cons_succ]
          refine wpT_takeG (i := 5) (v := ?vb9_5) rfl (by kernel_rfl) (fun _ _ _ h => h) rfl ?yb9_5 ?rb9_5
          case yb9_5 => ((intro wz; go_simp); try with_reducible rfl)
          try simp only [Act.put, List.setIfInBounds_toArray, List.set_cons_zero, List.set_cons_succ]
          refine wpT_takeG (i := 6) (v := ?vb9_6) rfl (by kernel_rfl) (fun _ _ _ h => h) rfl ?yb9_6 ?rb9_6
          case yb9_6 => ((intro wz; go_simp); try with_reducible rfl)
          try simp only [Act.put, List.setIfInBounds_toArray, List.set_cons_zero, List.set_cons_succ]
          refine wpT_takeG (i := 7) (v := ?vb9_7) rfl (by kernel_rfl) (fun _ _ _ h => h) rfl ?yb9_7 ?rb9_7
          case yb9_7 => ((intro wz; go_simp); try with_reducible rfl)
          try simp only [Act.put, List.setIfInBounds_toArray, List.set_cons_zero, List.set_cons_succ]
          refine wpT_loadG (i := 10) (v := ?vb9_10) rfl (by kernel_rfl) (fun _ _ _ h => h) rfl ?yb9_10 HS ?rb9_10
          case yb9_10 => ((intro wz hSw; (try dsimp only at hSw); go_split_ands; go_simp); try with_reducible rfl)
          try simp only [Act.put, List.setIfInBounds_toArray, List.set_cons_zero, List.set_cons_succ]
          refine wpT_takeG (i := 11) (v := ?vb9_11) rfl (by kernel_rfl) (fun _ _ _ h => h) rfl ?yb9_11 ?rb9_11
          case yb9_11 => ((intro wz; go_simp); try with_reducible rfl)
          try simp only [Act.put, List.setIfInBounds_toArray, List.set_cons_zero, List.set_cons_succ]
          refine wpT_takeG (i := 12) (v := ?vb9_12) rfl (by kernel_rfl) (fun _ _ _ h => h) rfl ?yb9_12 ?rb9_12
          case yb9_12 => ((intro wz; go_simp); try with_reducible rfl)
          try simp only [Act.put, List.setIfInBounds_toArray, List.set_cons_zero, List.set_cons_succ]
          refine wpT_takeG (i := 13) (v := ?vb9_13) rfl (by kernel_rfl) (fun _ _ _ h => h) rfl ?yb9_13 ?rb9_13
          case yb9_13 => ((intro wz; go_simp); try with_reducible rfl)
          try simp only [Act.put, List.setIfInBounds_toArray, List.set_cons_zero, List.set_cons_succ]
          refine wpT_two (i := 8) (j := 14) (by kernel_rfl) rfl rfl rfl rfl ?_ ?_
          · go_simp
            have SF181 : Hid (Scr (w5.alloc (.cells #[.int .i64 9, .int .i64 0, .int .i64 0, .int .i64 i, .int .i64 im, .int .i64 0, .int .i64 0, .string ⟨#[]⟩] 29)) (.slice y1 ns.length y2) ns) := S5.out.later (below1 _ _)
            have SF182 : Hid (Scr (w5.alloc (.cells #[.int .i64 9, .int .i64 0, .int .i64 0, .int .i64 i, .int .i64 im, .int .i64 0, .int .i64 0, .string ⟨#[]⟩] 29)) (.slice (some ⟨w5.heap.size, 0, none⟩) 1 1) [cMv 9 i im]) := scr_lit w5 [cMv 9 i im] 29 (w5.heap.size) 1 (by simp) rfl (by simp [cMv]; exact vl_zero_ok)
            refine ⟨cond_keep (by decide) (HSW.out _ (HB0.out.trans ((below1 w5 _).mono HB0.out.size))), ?_⟩
            refine wpT_two (i := 9) (j := 14) (by kernel_rfl) rfl rfl rfl rfl ?_ ?_
            · go_simp
              refine (with_c (ns := ns) (cl := [cMv 9 i im]) (l := l) SF181.out SF182.out ⟨_, _, _, rfl⟩ (by simp; omega)).mono ?_
              rintro r W183 ⟨va184, rfl, sa185, hb186⟩
              have HB187 := Lib.hid ((HB0.out.trans ((below1 w5 _).mono HB0.out.size)).trans (hb186.mono ((HB0.out.trans ((below1 w5 _).mono HB0.out.size))).size))
              have SF188 : Hid (Scr W183 (.slice y1 ns.length y2) ns) := SF181.out.later hb186
              have SF189 := Lib.hid sa185
              clear sa185 hb186
              refine ⟨cond_keep (by decide) (HSW.out _ HB187.out), ?_⟩
              refine wpT_runG (i := 14) (by kernel_rfl) rfl rfl ?_
              go_simp
              have SF190 : Hid (Scr (W183.alloc (.cells #[.int .i64 10, .int .i64 0, .int .i64 0, .int .i64 i, .int .i64 ip, .int .i64 0, .int .i64 0, .string ⟨#[]⟩] 29)) (.slice y1 ns.length y2) ns) := SF188.out.later (below1 _ _)
              have SF191 : Hid (Scr (W183.alloc (.cells #[.int .i64 10, .int .i64 0, .int .i64 0, .int .i64 i, .int .i64 ip, .int .i64 0, .int .i64 0, .string ⟨#[]⟩] 29)) (va184) (ns ++ [cMv 9 i im].map (onL l))) := SF189.out.later (below1 _ _)
              have SF192 : Hid (Scr (W183.alloc (.cells #[.int .i64 10, .int .i64 0, .int .i64 0, .int .i64 i, .int .i64 ip, .int .i64 0, .int .i64 0, .string ⟨#[]⟩] 29)) (.slice (some ⟨W183.heap.size, 0, none⟩) 1 1) [cMv 10 i ip]) := scr_lit W183 [cMv 10 i ip] 29 (W183.heap.size) 1 (by simp) rfl (by simp [cMv]; exact vl_zero_ok)
              refine ⟨cond_keep (by decide) (HSW.out _ (HB187.out.trans ((below1 W183 _).mono HB187.out.size))), ?_⟩
              refine wpT_runG (i := 15) (by kernel_rfl) rfl rfl ?_
              go_simp
              refine (with_c (ns := ns) (cl := [cMv 10 i ip]) (l := l) SF190.out SF192.out ⟨_, _, _, rfl⟩ (by simp; omega)).mono ?_
              rintro r W193 ⟨va194, rfl, sa195, hb196⟩
              have HB197 := Lib.hid ((HB187.out.trans ((below1 W183 _).mono HB187.out.size)).trans (hb196.mono ((HB187.out.trans ((below1 W183 _).mono HB187.out.size))).size))
              have SF198 : Hid (Scr W193 (.slice y1 ns.length y2) ns) := SF190.out.later hb196
              have SF199 : Hid (Scr W193 (va184) (ns ++ [cMv 9 i im].map (onL l))) := SF191.out.later hb196
              have SF200 := Lib.hid sa195
              clear sa195 hb196
              refine ⟨cond_keep (by decide) (HSW.out _ HB197.out), ?_⟩
              refine wpT_runG (i := 16) (by kernel_rfl) rfl rfl ?_
              go_simp
              refine (alike_c SF198.out SF199.out SF200.out D1.out D2.out (HL.out _) (HL.out _) (fun k _ => D3.out k) (by decide) (by omega) (by simp; omega) (by simp; omega)).mono ?_
              rintro r wf ⟨rfl, hbf⟩
              refine ⟨cond_keep (by decide) (HSW.out _ (HB197.out.trans (hbf.mono HB197.out.size))), ?_⟩
              have BF := Lib.hid (B3.out.trans ((HB197.out.trans (hbf.mono HB197.out.size)).mono B3.out.size))
              clear hbf
              refine wpT_takeG (i := 17) (v := ?vz10_17) rfl (by kernel_rfl) (fun _ _ _ h => h) rfl ?yz10_17 ?rz10_17
              case yz10_17 => ((intro wz; go_simp); try with_reducible rfl)
              try simp only [Act.put, List.setIfInBounds_toArray, List.set_cons_zero, List.set_cons_succ]
              refine wpT_takeG (i := 18) (v := ?vz10_18) rfl (by kernel_rfl) (fun _ _ _ h => h) rfl ?yz10_18 ?rz10_18
              case yz10_18 => ((intro wz; go_simp); try with_reducible rfl)
              try simp only [Act.put, List.setIfInBounds_toArray, List.set_cons_zero, List.set_cons_succ]
              refine wpT_done (by kernel_rfl) ?_ _
              go_wp2
              go_ret
              exact ⟨rfl, BF.out⟩
            · go_simp
              have SF201 : Hid (Scr ((w5.alloc (.cells #[.int .i64 9, .int .i64 0, .int .i64 0, .int .i64 i, .int .i64 im, .int .i64 0, .int .i64 0, .string ⟨#[]⟩] 29)).alloc (.cells #[.int .i64 10, .int .i64 0, .int .i64 0, .int .i64 i, .int .i64 ip, .int .i64 0, .int .i64 0, .string ⟨#[]⟩] 29)) (.slice y1 ns.length y2) ns) := SF181.out.later (below1 _ _)
              have SF202 : Hid (Scr ((w5.alloc (.cells #[.int .i64 9, .int .i64 0, .int .i64 0, .int .i64 i, .int .i64 im, .int .i64 0, .int .i64 0, .string ⟨#[]⟩] 29)).alloc (.cells #[.int .i64 10, .int .i64 0, .int .i64 0, .int .i64 i, .int .i64 ip, .int .i64 0, .int .i64 0, .string ⟨#[]⟩] 29)) (.slice (some ⟨w5.heap.size, 0, none⟩) 1 1) [cMv 9 i im]) := SF182.out.later (below1 _ _)
              have SF203 : Hid (Scr ((w5.alloc (.cells #[.int .i64 9, .int .i64 0, .int .i64 0, .int .i64 i, .int .i64 im, .int .i64 0, .int .i64 0, .string ⟨#[]⟩] 29)).alloc (.cells #[.int .i64 10, .int .i64 0, .int .i64 0, .int .i64 i, .int .i64 ip, .int .i64 0, .int .i64 0, .string ⟨#[]⟩] 29)) (.slice (some ⟨w5.heap.size + 1, 0, none⟩) 1 1) [cMv 10 i ip]) := scr_lit (w5.alloc (.cells #[.int .i64 9, .int .i64 0, .int .i64 0, .int .i64 i, .int .i64 im, .int .i64 0, .int .i64 0, .string ⟨#[]⟩] 29)) [cMv 10 i ip] 29 (w5.heap.size + 1) 1 (by simp) rfl (by simp [cMv]; exact vl_zero_ok)
              refine ⟨cond_keep (by decide) (HSW.out _ (HB0.out.trans ((below2 w5 _ _).mono HB0.out.size))), ?_⟩
              refine wpT_runG (i := 9) (by kernel_rfl) rfl rfl ?_
              go_simp
              refine (with_c (ns := ns) (cl := [cMv 9 i im]) (l := l) SF201.out SF202.out ⟨_, _, _, rfl⟩ (by simp; omega)).mono ?_
              rintro r W204 ⟨va205, rfl, sa206, hb207⟩
              have HB208 := Lib.hid ((HB0.out.trans ((below2 w5 _ _).mono HB0.out.size)).trans (hb207.mono ((HB0.out.trans ((below2 w5 _ _).mono HB0.out.size))).size))
              have SF209 : Hid (Scr W204 (.slice y1 ns.length y2) ns) := SF201.out.later hb207
              have SF210 : Hid (Scr W204 (.slice (some ⟨w5.heap.size + 1, 0, none⟩) 1 1) [cMv 10 i ip]) := SF203.out.later hb207
              have SF211 := Lib.hid sa206
              clear sa206 hb207
              refine ⟨cond_keep (by decide) (HSW.out _ HB208.out), ?_⟩
              refine wpT_runG (i := 15) (by kernel_rfl) rfl rfl ?_
              go_simp
              refine (with_c (ns := ns) (cl := [cMv 10 i ip]) (l := l) SF209.out SF210.out ⟨_, _, _, rfl⟩ (by simp; omega)).mono ?_
              rintro r W212 ⟨va213, rfl, sa214, hb215⟩
              have HB216 := Lib.hid ((HB208.out.trans ((Below.refl _ W204).mono HB208.out.size)).trans (hb215.mono ((HB208.out.trans ((Below.refl _ W204).mono HB208.out.size))).size))
              have SF217 : Hid (Scr W212 (.slice y1 ns.length y2) ns) := SF209.out.later hb215
              have SF218 : Hid (Scr W212 (va205) (ns ++ [cMv 9 i im].map (onL l))) := SF211.out.later hb215
              have SF219 := Lib.hid sa214
              clear sa214 hb215
              refine ⟨cond_keep (by decide) (HSW.out _ HB216.out), ?_⟩
              refine wpT_runG (i := 16) (by kernel_rfl) rfl rfl ?_
              go_simp
              refine (alike_c SF217.out SF218.out SF219.out D1.out D2.out (HL.out _) (HL.out _) (fun k _ => D3.out k) (by decide) (by omega) (by simp; omega) (by simp; omega)).mono ?_
              rintro r wf ⟨rfl, hbf⟩
              refine ⟨cond_keep (by decide) (HSW.out _ (HB216.out.trans (hbf.mono HB216.out.size))), ?_⟩
              have BF := Lib.hid (B3.out.trans ((HB216.out.trans (hbf.mono HB216.out.size)).mono B3.out.size))
              clear hbf
              refine wpT_takeG (i := 17) (v := ?vz11_17) rfl (by kernel_rfl) (fun _ _ _ h => h) rfl ?yz11_17 ?rz11_17
              case yz11_17 => ((intro wz; go_simp); try with_reducible rfl)
              try simp only [Act.put, List.setIfInBounds_toArray, List.set_cons_zero, List.set_cons_succ]
              refine wpT_takeG (i := 18) (v := ?vz11_18) rfl (by kernel_rfl) (fun _ _ _ h => h) rfl ?yz11_18 ?rz11_18
              case yz11_18 => ((intro wz; go_simp); try with_reducible rfl)
              try simp only [Act.put, List.setIfInBounds_toArray, List.set_cons_zero, List.set_cons_succ]
              refine wpT_done (by kernel_rfl) ?_ _
              go_wp2
              go_ret
              exact ⟨rfl, BF.out⟩
          · go_simp
            have SF220 : Hid (Scr (w5.alloc (.cells #[.int .i64 10, .int .i64 0, .int .i64 0, .int .i64 i, .int .i64 ip, .int .i64 0, .int .i64 0, .string ⟨#[]⟩] 29)) (.slice y1 ns.length y2) ns) := S5.out.later (below1 _ _)
            have SF221 : Hid (Scr (w5.alloc (.cells #[.int .i64 10, .int .i64 0, .int .i64 0, .int .i64 i, .int .i64 ip, .int .i64 0, .int .i64 0, .string ⟨#[]⟩] 29)) (.slice (some ⟨w5.heap.size, 0, none⟩) 1 1) [cMv 10 i ip]) := scr_lit w5 [cMv 10 i ip] 29 (w5.heap.size) 1 (by simp) rfl (by simp [cMv]; exact vl_zero_ok)
            refine ⟨cond_keep (by decide) (HSW.out _ (HB0.out.trans ((below1 w5 _).mono HB0.out.size))), ?_⟩
            refine wpT_runG (i := 8) (by kernel_rfl) rfl rfl ?_
            go_simp
            have SF222 : Hid (Scr ((w5.alloc (.cells #[.int .i64 10, .int .i64 0, .int .i64 0, .int .i64 i, .int .i64 ip, .int .i64 0, .int .i64 0, .string ⟨#[]⟩] 29)).alloc (.cells #[.int .i64 9, .int .i64 0, .int .i64 0, .int .i64 i, .int .i64 im, .int .i64 0, .int .i64 0, .string ⟨#[]⟩] 29)) (.slice y1 ns.length y2) ns) := SF220.out.later (below1 _ _)
            have SF223 : Hid (Scr ((w5.alloc (.cells #[.int .i64 10, .int .i64 0, .int .i64 0, .int .i64 i, .int .i64 ip, .int .i64 0, .int .i64 0, .string ⟨#[]⟩] 29)).alloc (.cells #[.int .i64 9, .int .i64 0, .int .i64 0, .int .i64 i, .int .i64 im, .int .i64 0, .int .i64 0, .string ⟨#[]⟩] 29)) (.slice (some ⟨w5.heap.size, 0, none⟩) 1 1) [cMv 10 i ip]) := SF221.out.later (below1 _ _)
            have SF224 : Hid (Scr ((w5.alloc (.cells #[.int .i64 10, .int .i64 0, .int .i64 0, .int .i64 i, .int .i64 ip, .int .i64 0, .int .i64 0, .string ⟨#[]⟩] 29)).alloc (.cells #[.int .i64 9, .int .i64 0, .int .i64 0, .int .i64 i, .int .i64 im, .int .i64 0, .int .i64 0, .string ⟨#[]⟩] 29)) (.slice (some ⟨w5.heap.size + 1, 0, none⟩) 1 1) [cMv 9 i im]) := scr_lit (w5.alloc (.cells #[.int .i64 10, .int .i64 0, .int .i64 0, .int .i64 i, .int .i64 ip, .int .i64 0, .int .i64 0, .string ⟨#[]⟩] 29)) [cMv 9 i im] 29 (w5.heap.size + 1) 1 (by simp) rfl (by simp [cMv]; exact vl_zero_ok)
            refine ⟨cond_keep (by decide) (HSW.out _ (HB0.out.trans ((below2 w5 _ _).mono HB0.out.size))), ?_⟩
            refine wpT_runG (i := 9) (by kernel_rfl) rfl rfl ?_
            go_simp
            refine (with_c (ns := ns) (cl := [cMv 9 i im]) (l := l) SF222.out SF224.out ⟨_, _, _, rfl⟩ (by simp; omega)).mono ?_
            rintro r W225 ⟨va226, rfl, sa227, hb228⟩
            have HB229 := Lib.hid ((HB0.out.trans ((below2 w5 _ _).mono HB0.out.size)).trans (hb228.mono ((HB0.out.trans ((below2 w5 _ _).mono HB0.out.size))).size))
            have SF230 : Hid (Scr W225 (.slice y1 ns.length y2) ns) := SF222.out.later hb228
            have SF231 : Hid (Scr W225 (.slice (some ⟨w5.heap.size, 0, none⟩) 1 1) [cMv 10 i ip]) := SF223.out.later hb228
            have SF232 := Lib.hid sa227
            clear sa227 hb228
            refine ⟨cond_keep (by decide) (HSW.out _ HB229.out), ?_⟩
            refine wpT_runG (i := 15) (by kernel_rfl) rfl rfl ?_
            go_simp
            refine (with_c (ns := ns) (cl := [cMv 10 i ip]) (l := l) SF230.out SF231.out ⟨_, _, _, rfl⟩ (by simp; omega)).mono ?_
            rintro r W233 ⟨va234, rfl, sa235, hb236⟩
            have HB237 := Lib.hid ((HB229.out.trans ((Below.refl _ W225).mono HB229.out.size)).trans (hb236.mono ((HB229.out.trans ((Below.refl _ W225).mono HB229.out.size))).size))
            have SF238 : Hid (Scr W233 (.slice y1 ns.length y2) ns) := SF230.out.later hb236
            have SF239 : Hid (Scr W233 (va226) (ns ++ [cMv 9 i im].map (onL l))) := SF232.out.later hb236
            have SF240 := Lib.hid sa235
            clear sa235 hb236
            refine ⟨cond_keep (by decide) (HSW.out _ HB237.out), ?_⟩
            refine wpT_runG (i := 16) (by kernel_rfl) rfl rfl ?_
            go_simp
            refine (alike_c SF238.out SF239.out SF240.out D1.out D2.out (HL.out _) (HL.out _) (fun k _ => D3.out k) (by decide) (by omega) (by simp; omega) (by simp; omega)).mono ?_
            rintro r wf ⟨rfl, hbf⟩
            refine ⟨cond_keep (by decide) (HSW.out _ (HB237.out.trans (hbf.mono HB237.out.size))), ?_⟩
            have BF := Lib.hid (B3.out.trans ((HB237.out.trans (hbf.mono HB237.out.size)).mono B3.out.size))
            clear hbf
            refine wpT_takeG (i := 17) (v := ?vz12_17) rfl (by kernel_rfl) (fun _ _ _ h => h) rfl ?yz12_17 ?rz12_17
            case yz12_17 => ((intro wz; go_simp); try with_reducible rfl)
            try simp only [Act.put, List.setIfInBounds_toArray, List.set_cons_zero, List.set_cons_succ]
            refine wpT_takeG (i := 18) (v := ?vz12_18) rfl (by kernel_rfl) (fun _ _ _ h => h) rfl ?yz12_18 ?rz12_18
            case yz12_18 => ((intro wz; go_simp); try with_reducible rfl)
            try simp only [Act.put, List.setIfInBounds_toArray, List.set_cons_zero, List.set_cons_succ]
            refine wpT_done (by kernel_rfl) ?_ _
            go_wp2
            go_ret
            exact ⟨rfl, BF.out⟩
  · have CH := Lib.hid (fun k o => chosen_nil ((nil_nats w1).later (below1 w1 o)) rfl k)
    simp only [scene0]
    go_wp2_with fail
    refine (CH.out m _).mono ?_
    rintro r w2 ⟨rfl, rfl⟩
    go_wp2_with fail
    refine (CH.out k _).mono ?_
    rintro r w2 ⟨rfl, rfl⟩
    clear CH
    go_wp2
    go_ret
    exact ⟨rfl, B1.out.trans ((below1 w1 _).mono B1.out.size)⟩
end Bead
end Go.Proofs.Ytdmichkekipdpaa
