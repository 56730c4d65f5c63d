/- FnMoveAndBack returns true. -/
import Derived.Test.YtdmichkekipdpaaBeforeAfter
set_option linter.all false
namespace Go.Proofs.Ytdmichkekipdpaa
open Go.RowKit
namespace Bead
set_option maxRecDepth 100000

section
variable {P : Program} {ops : Array Oper} {Q : Exit → Act → World → Prop} {md : Region.Mode} {S : World → Prop} {R T : List Nat}
/-- An operation whose guard fails is passed first. -/
theorem wpT_skip {i : Nat} {oi : Oper} {fuel : Nat} {listed : Array Bool} {a : Act} {w : World} (hi' : ops.toList[i]? = some oi)
    (hc : (Region.noSelect ops && Region.free md ops listed i && (Region.ready md ops listed).contains i && !T.contains i && !R.contains i && shutB md ops listed) = true)
    (hQ : ∀ c a w, Q (.panic c) (a.put oi.dst undef) w → Q (.panic c) a w) (hg : Region.wanted oi (yielded ops a.tmps) = false)
    (h : wpT P md ops Q S R T fuel (listed.setIfInBounds i true) (a.put oi.dst undef) w) : wpT P md ops Q S R T (fuel + 1) listed a w := by
  have hi : ops[i]? = some oi := by rw [← Array.getElem?_toList]; exact hi'
  simp only [Bool.and_eq_true, Bool.not_eq_true'] at hc
  obtain ⟨⟨⟨⟨⟨hs, hf⟩, hr⟩, hT⟩, hR⟩, hsh⟩ := hc
  exact wpT_first (Y := fun _ => True) hi (by simpa using hT) (by simpa using hR) (Region.noSelect_spec hs) hQ (fun _ _ _ _ _ _ _ _ _ => trivial) fuel listed a w (shutB_spec hsh) (Region.free_spec hi hf) (by simpa using hr) (.inr ⟨hg, rfl⟩) trivial h
end

/-- An element that is moved to an end, and back to where it was. -/
theorem there_back {ns : List Cl} {l : Nat} (h : Scened ns l) {op op2 : Int} {e x i j : Nat} (hop : op = 7 ∨ op = 8) (hop2 : op2 = 9 ∨ op2 = 10) (he : e ∈ (runFrom Md.init ns).seq l) (hi : (runFrom Md.init ns).ret i = some e) (hj : (runFrom Md.init ns).ret j = some x)
    (hx : x ∈ (runFrom Md.init ns).seq l) (hne : x ≠ e) (hs : ins (posOf op2 x (rm e ((runFrom Md.init ns).seq l))) e (rm e ((runFrom Md.init ns).seq l)) = (runFrom Md.init ns).seq l) :
    okFrom 500 Md.init (ns ++ [onL l (cMv op i 0), onL l (cMv op2 i j)]) = true ∧ ∀ k, Look k (runFrom Md.init (ns ++ [onL l (cMv op i 0), onL l (cMv op2 i j)])) (runFrom Md.init ns) := by
  have hw := h.wf
  have nd := hw.nodup l
  have pa := perm_mv hw (op := op) (by omega) h.lst hi he (j := 0) (x := 0) (fun q => by omega) (most := 500)
  have sa := mv_step (m := runFrom Md.init ns) (op := op) (x := 0) (j := 0) (by omega) hi he (fun q => by omega)
  generalize hs1 : ins (posOf op 0 (rm e ((runFrom Md.init ns).seq l))) e (rm e ((runFrom Md.init ns).seq l)) = s1 at sa
  have er : rm e s1 = rm e ((runFrom Md.init ns).seq l) := by rw [← hs1]; exact rm_ins (fun q => (mem_rm.1 q).2 rfl)
  have mm : ∀ y, y ∈ s1 ↔ y ∈ (runFrom Md.init ns).seq l := fun y => by rw [← hs1]; exact (move_perm nd he _).mem_iff
  have ea : ((runFrom Md.init ns).step (onL l (cMv op i 0))).1 = (runFrom Md.init ns).grow.setSeq l s1 := by rw [sa]
  have hw1 := hw.step pa
  rw [ea] at hw1
  have sq : ((runFrom Md.init ns).grow.setSeq l s1).seq l = s1 := upd_same _ _ _
  have he1 : e ∈ ((runFrom Md.init ns).grow.setSeq l s1).seq l := by rw [sq]; exact (mm e).2 he
  have hx1 : x ∈ ((runFrom Md.init ns).grow.setSeq l s1).seq l := by rw [sq]; exact (mm x).2 hx
  have pc := perm_mv hw1 (op := op2) (by omega) (l := l) h.lst hi he1 (j := j) (x := x) (fun _ => ⟨hj, hx1⟩) (most := 500)
  have sc := mv_step (m := (runFrom Md.init ns).grow.setSeq l s1) (op := op2) (x := x) (j := j) (l := l) (by omega) hi he1 (fun _ => ⟨hj, hx1, hne⟩)
  rw [sq, er, hs] at sc
  refine ⟨?_, fun k => ?_⟩
  · rw [okFrom_append, h.ok]
    simp only [okFrom, Bool.and_true, Bool.true_and, Bool.and_eq_true]
    refine ⟨(permitted_iff _ _ _).2 pa, ?_⟩
    rw [ea]; exact (permitted_iff _ _ _).2 pc
  · rw [runFrom_append]
    show Look k (((runFrom Md.init ns).step (onL l (cMv op i 0))).1.step (onL l (cMv op2 i j))).1 _
    rw [ea, sc]
    have q1 : (((runFrom Md.init ns).grow.setSeq l s1).grow.setSeq l ((runFrom Md.init ns).seq l)).seq = (runFrom Md.init ns).seq := by
      show upd (upd (runFrom Md.init ns).seq l _) l _ = _
      funext k; simp only [upd]; split
      · rename_i q; rw [q]
      · rfl
    refine ⟨by rw [q1], fun _ _ => rfl, fun e he => ?_⟩
    rw [q1] at he
    obtain ⟨n, hn⟩ := h.named k e he
    exact ⟨n, hn, hn⟩
theorem front_back {ns : List Cl} {l : Nat} (h : Scened ns l) {k p e i j : Nat} (hp : ((runFrom Md.init ns).seq l)[k]? = some p) (he : ((runFrom Md.init ns).seq l)[k + 1]? = some e) (hi : (runFrom Md.init ns).ret i = some e) (hj : (runFrom Md.init ns).ret j = some p) :
    okFrom 500 Md.init (ns ++ [onL l (cMv 7 i 0), onL l (cMv 10 i j)]) = true ∧ ∀ k, Look k (runFrom Md.init (ns ++ [onL l (cMv 7 i 0), onL l (cMv 10 i j)])) (runFrom Md.init ns) := by
  obtain ⟨u, z, hs, h0, h1, h2, h3, h4⟩ := part_two (h.wf.nodup l) hp he
  refine there_back h (.inl rfl) (.inr rfl) (List.mem_of_getElem? he) hi hj (List.mem_of_getElem? hp) h0 ?_
  have er : rm e (u ++ p :: e :: z) = u ++ p :: z := by rw [rm_append, rm_cons_other h0, rm_cons_same, rm_none h2, rm_none h4]
  have pp : posOf 10 p (u ++ p :: z) = (u ++ [p]).length := by simp [posOf, idx_mid h1]
  rw [hs, er, pp, show u ++ p :: z = (u ++ [p]) ++ z by simp, ins_at]; simp
theorem back_front {ns : List Cl} {l : Nat} (h : Scened ns l) {k x e i j : Nat} (he : ((runFrom Md.init ns).seq l)[k]? = some e) (hx : ((runFrom Md.init ns).seq l)[k + 1]? = some x) (hi : (runFrom Md.init ns).ret i = some e) (hj : (runFrom Md.init ns).ret j = some x) :
    okFrom 500 Md.init (ns ++ [onL l (cMv 8 i 0), onL l (cMv 9 i j)]) = true ∧ ∀ k, Look k (runFrom Md.init (ns ++ [onL l (cMv 8 i 0), onL l (cMv 9 i j)])) (runFrom Md.init ns) := by
  obtain ⟨u, z, hs, h0, h1, h2, h3, h4⟩ := part_two (h.wf.nodup l) he hx
  refine there_back h (.inr rfl) (.inl rfl) (List.mem_of_getElem? he) hi hj (List.mem_of_getElem? hx) (fun q => h0 q.symm) ?_
  have er : rm e (u ++ e :: x :: z) = u ++ x :: z := by rw [rm_append, rm_cons_same, rm_cons_other (fun q => h0 q.symm), rm_none h1, rm_none h3]
  have pp : posOf 9 x (u ++ x :: z) = u.length := by simp [posOf, idx_mid h2]
  rw [hs, er, pp, ins_at]

set_option maxHeartbeats 16000000 in
theorem moveAndBack_c {w : World} {v : Value} {cs : List Cl} (s : Scr w v cs) (hn : cs.length ≤ 1048576) (n k : Int) :
    Calls Try.prog 12 #[v, .int .i64 n, .int .i64 k] w fun r w' => r = .returned (.bool true) ∧ Below w.heap.size w w' := by
  have ST := Lib.hid (set_c s hn n)
  clear s
  go_enter Try.func12, Try.ntmps12
  go_wp2_with fail
  refine ST.out.mono ?_
  rintro r w1 ⟨hb1, hcase⟩
  have B1 := Lib.hid hb1
  clear hb1 ST
  rcases hcase with ⟨l, vs, ve, rfl, hsc, hok0, hl0, hs1, hn1⟩ | rfl
  · have SC := Lib.hid hsc; have S1 := Lib.hid hs1; have N1 := Lib.hid hn1
    generalize hns : namedC cs = ns at *
    clear hns hsc hok0 hl0
    obtain ⟨y1, y2, rfl⟩ := hs1.form
    have NL := Lib.hid (names_length (m := runFrom Md.init ns) ((runFrom Md.init ns).seq l))
    have hlen := scene_len SC.out
    by_cases hE : (runFrom Md.init ns).names ((runFrom Md.init ns).seq l) = []
    · have CH := Lib.hid (fun k o => chosen_nil (hn1.later (below1 w1 o)) hE k)
      obtain ⟨x1, x2, rfl⟩ := hn1.form
      clear hs1 hn1 hE
      go_wp2_with fail
      refine (CH.out k _).mono ?_
      rintro r w2 ⟨rfl, rfl⟩
      clear CH
      go_wp2
      go_ret
      exact ⟨rfl, B1.out.trans ((below1 w1 _).mono B1.out.size)⟩
    · obtain ⟨b1, o1, p1, hv1, cell1⟩ := hn1.cells hE
      subst hv1
      have CH := Lib.hid (fun k o => chosen_c (hn1.later (below1 w1 o)) hE (by rw [NL.out]; omega) k)
      have nd : ((runFrom Md.init ns).names ((runFrom Md.init ns).seq l)).Nodup := by
        unfold Md.names
        refine nodup_map_on (SC.out.wf.nodup l) (fun a ha b hb q => ?_)
        obtain ⟨ia, hia⟩ := SC.out.named l a ha
        obtain ⟨ib, hib⟩ := SC.out.named l b hb
        unfold Md.name at q
        rw [hia, hib] at q
        simp at q
        subst q
        exact fst_inj SC.out.wf hia hib
      have ND := Lib.hid nd
      have hN5 : ((runFrom Md.init ns).names ((runFrom Md.init ns).seq l)).length ≤ 500 := by rw [NL.out]; exact hlen
      have LN := SC.out.len
      have HL := Lib.hid (fun (m : List Cl) (k : Nat) (hk : k ∈ listsOf ns) => show (runFrom Md.init (ns ++ m)).isL k = true by rw [runFrom_append]; exact run_isL_mono m (mem_lists k hk))
      have CELL := Lib.hid cell1
      clear hs1 hn1 hE cell1 nd hlen
      generalize hEE : (runFrom Md.init ns).names ((runFrom Md.init ns).seq l) = E at *
      have HEE := Lib.hid hEE
      clear hEE
      go_wp2_with fail
      refine (CH.out k _).mono ?_
      rintro r wc ⟨i, hi, rfl, rfl⟩
      obtain ⟨t, ht, hmt⟩ := List.getElem_of_mem hi
      have hgi : E[t]? = some i := by rw [List.getElem?_eq_getElem ht, hmt]
      have hidx : idxZ E i = (t : Int) := by unfold idxZ; rw [if_pos hi, idxOf_of_get ND.out hgi]
      have IX := Lib.hid (fun o => index_c (w := w1.alloc o) i (N1.out.later (below1 w1 o)) (by omega))
      rw [hidx] at IX
      have ct := CELL.out t i hgi
      have hbl : b1 < w1.heap.size := World.block_lt_of_cell? w1 _ ct
      -- the laws at the neighbours
      have FB : Hid (∀ t' ip, t = t' + 1 → E[t']? = some ip → okFrom 500 Md.init (ns ++ [onL l (cMv 7 i 0), onL l (cMv 10 i ip)]) = true ∧ ∀ k, Look k (runFrom Md.init (ns ++ [onL l (cMv 7 i 0), onL l (cMv 10 i ip)])) (runFrom Md.init ns)) := by
        intro t' ip ht' hp
        subst ht'
        rw [← HEE.out] at hp hgi
        obtain ⟨e, he, _, hre⟩ := scene_get SC.out hgi
        obtain ⟨p, hp, _, hrp⟩ := scene_get SC.out hp
        exact front_back SC.out hp he hre hrp
      have BF0 : Hid (∀ ix, E[t + 1]? = some ix → okFrom 500 Md.init (ns ++ [onL l (cMv 8 i 0), onL l (cMv 9 i ix)]) = true ∧ ∀ k, Look k (runFrom Md.init (ns ++ [onL l (cMv 8 i 0), onL l (cMv 9 i ix)])) (runFrom Md.init ns)) := by
        intro ix hx
        rw [← HEE.out] at hx hgi
        obtain ⟨e, he, _, hre⟩ := scene_get SC.out hgi
        obtain ⟨x, hx, _, hrx⟩ := scene_get SC.out hx
        exact back_front SC.out he hx hre hrx
      clear hi CH hmt hidx ct
      have GP : Hid (∀ t' , t = t' + 1 → ∃ ip, E[t']? = some ip) := fun t' q => ⟨_, List.getElem?_eq_getElem (by omega)⟩
      have GX : Hid (t + 1 ≠ E.length → ∃ ix, E[t + 1]? = some ix) := fun q => ⟨_, List.getElem?_eq_getElem (by omega)⟩
      have tN := ht
      clear ht hgi
      generalize E.length = N at *
      go_wp2_with fail
      refine (IX.out _).mono ?_
      rintro r wc ⟨rfl, rfl⟩
      clear IX
      obtain ⟨w2, hw2⟩ : ∃ W, W = w1.alloc (.cells #[.slice y1 ns.length y2, .int .i64 (l : Nat), .slice (some ⟨b1, o1, none⟩) N p1] 34) := ⟨_, rfl⟩
      have hb2 : Below w1.heap.size w1 w2 := by rw [hw2]; exact below1 w1 _
      have B2 := Lib.hid (B1.out.trans (hb2.mono B1.out.size))
      have BX : Hid (w2.heap[w1.heap.size]? = some (.cells #[.slice y1 ns.length y2, .int .i64 (l : Nat), .slice (some ⟨b1, o1, none⟩) N p1] 34 (0, 0))) := by show _ = _; rw [hw2]; exact heap_alloc_new w1 _
      have CX : Hid (∀ (k i : Nat), E[k]? = some i → ∀ W, Below w2.heap.size w2 W → W.cell? ⟨b1, o1 + k, none⟩ = some (.int .i64 (i : Nat))) := fun k i hk W hb => ((hb2.trans (hb.mono hb2.size)).cell (p := ⟨b1, o1 + k, none⟩) hbl).trans (CELL.out k i hk)
      have S2 := Lib.hid (S1.out.later hb2)
      rw [← hw2]
      clear hw2 hb2 hbl CELL
      go_wp2_with fail
      have wq : IntKind.i64.wrap ((t : Int) + 1) = (t : Int) + 1 := by rw [IntKind.wrap_i64]; omega
      have wn : ((t : Int) + 1).toNat = t + 1 := by omega
      have w0 : 0 ≤ (t : Int) + 1 := by omega
      rcases Nat.eq_zero_or_pos t with hz | htp
      · have qz : decide ((0 : Int) < (t : Int)) = false := by simp; omega
        have qn : ¬ 0 < t := by omega
        have qm : decide (0 < t) = false := by simp; omega
        clear hz
        have HSW0 : ∀ W, Below w2.heap.size w2 W → (fun W => W.cell? ⟨w1.heap.size, 0, none⟩ = some (.slice y1 ns.length y2) ∧ W.cell? ⟨w1.heap.size, 1, none⟩ = some (.int .i64 (l : Nat)) ∧ W.cell? ⟨w1.heap.size, 2, none⟩ = some (.slice (some ⟨b1, o1, none⟩) N p1)) W := fun W hb => ⟨cell_of_heap (o := 0) (heap_later BX.out hb) rfl, cell_of_heap (o := 1) (heap_later BX.out hb) rfl, cell_of_heap (o := 2) (heap_later BX.out hb) rfl⟩
        refine wp_region_T (fun W => W.cell? ⟨w1.heap.size, 0, none⟩ = some (.slice y1 ns.length y2) ∧ W.cell? ⟨w1.heap.size, 1, none⟩ = some (.int .i64 (l : Nat)) ∧ W.cell? ⟨w1.heap.size, 2, none⟩ = some (.slice (some ⟨b1, o1, none⟩) N p1)) [] [] run_mixed ?_
        simp only [List.size_toArray, List.length_cons, List.length_nil]
        have hb23 : Below w2.heap.size w2 w2.drew := (Below.refl _ _).drew
        have S3 : Hid (Scr w2.drew (.slice y1 ns.length y2) ns) := S2.out.later hb23
        have B3 := Lib.hid (B2.out.trans (hb23.mono B2.out.size))
        have BX3 := Lib.hid (heap_later BX.out hb23)
        have CX3 : Hid (∀ (k i : Nat), E[k]? = some i → ∀ W, Below w2.drew.heap.size w2.drew W → W.cell? ⟨b1, o1 + k, none⟩ = some (.int .i64 (i : Nat))) := fun k i hk W hb => CX.out k i hk W (hb23.trans (hb.mono hb23.size))
        have z23 : w2.drew.heap.size = w2.heap.size := rfl
        generalize w2.drew = w3 at *
        have HSW : Hid (∀ W, Below w3.heap.size w3 W → (fun W => W.cell? ⟨w1.heap.size, 0, none⟩ = some (.slice y1 ns.length y2) ∧ W.cell? ⟨w1.heap.size, 1, none⟩ = some (.int .i64 (l : Nat)) ∧ W.cell? ⟨w1.heap.size, 2, none⟩ = some (.slice (some ⟨b1, o1, none⟩) N p1)) W) := fun W hb => HSW0 W (hb23.trans (hb.mono (by rw [z23]; exact Nat.le_refl _)))
        have HB0 := Lib.hid (Below.refl w3.heap.size w3)
        have HS := HSW.out w3 HB0.out
        clear hb23 z23 HSW0 S2 B2 BX CX w2
        refine wpT_takeG (i := 0) (v := ?va0) rfl (by kernel_rfl) (fun _ _ _ h => h) rfl ?ya0 ?ra0
        case ya0 => ((intro wz; go_simp); try with_reducible rfl)
        try simp only [Act.put, List.setIfInBounds_toArray, List.set_cons_zero, List.set_cons_succ]
        refine wpT_takeG (i := 1) (v := ?va1) rfl (by kernel_rfl) (fun _ _ _ h => h) rfl ?ya1 ?ra1
        case ya1 => ((intro wz; go_simp); try with_reducible rfl)
        try simp only [Act.put, List.setIfInBounds_toArray, List.set_cons_zero, List.set_cons_succ]
        refine wpT_takeG (i := 2) (v := ?va2) rfl (by kernel_rfl) (fun _ _ _ h => h) rfl ?ya2 ?ra2
        case ya2 => ((intro wz; go_simp); try with_reducible rfl)
        try simp only [Act.put, List.setIfInBounds_toArray, List.set_cons_zero, List.set_cons_succ]
        refine wpT_skip (i := 3) rfl (by kernel_rfl) (fun _ _ _ h => h) rfl ?_
        try simp only [Act.put, List.setIfInBounds_toArray, List.set_cons_zero, List.set_cons_succ]
        refine wpT_skip (i := 4) rfl (by kernel_rfl) (fun _ _ _ h => h) rfl ?_
        try simp only [Act.put, List.setIfInBounds_toArray, List.set_cons_zero, List.set_cons_succ]
        refine wpT_skip (i := 5) rfl (by kernel_rfl) (fun _ _ _ h => h) rfl ?_
        try simp only [Act.put, List.setIfInBounds_toArray, List.set_cons_zero, List.set_cons_succ]
        refine wpT_skip (i := 6) rfl (by kernel_rfl) (fun _ _ _ h => h) rfl ?_
        try simp only [Act.put, List.setIfInBounds_toArray, List.set_cons_zero, List.set_cons_succ]
        refine wpT_skip (i := 7) rfl (by kernel_rfl) (fun _ _ _ h => h) rfl ?_
        try simp only [Act.put, List.setIfInBounds_toArray, List.set_cons_zero, List.set_cons_succ]
        refine wpT_skip (i := 8) rfl (by kernel_rfl) (fun _ _ _ h => h) rfl ?_
        try simp only [Act.put, List.setIfInBounds_toArray, List.set_cons_zero, List.set_cons_succ]
        refine wpT_skip (i := 9) rfl (by kernel_rfl) (fun _ _ _ h => h) rfl ?_
        try simp only [Act.put, List.setIfInBounds_toArray, List.set_cons_zero, List.set_cons_succ]
        refine wpT_skip (i := 10) rfl (by kernel_rfl) (fun _ _ _ h => h) rfl ?_
        try simp only [Act.put, List.setIfInBounds_toArray, List.set_cons_zero, List.set_cons_succ]
        refine wpT_skip (i := 11) rfl (by kernel_rfl) (fun _ _ _ h => h) rfl ?_
        try simp only [Act.put, List.setIfInBounds_toArray, List.set_cons_zero, List.set_cons_succ]
        refine wpT_skip (i := 12) rfl (by kernel_rfl) (fun _ _ _ h => h) rfl ?_
        try simp only [Act.put, List.setIfInBounds_toArray, List.set_cons_zero, List.set_cons_succ]
        refine wpT_skip (i := 13) rfl (by kernel_rfl) (fun _ _ _ h => h) rfl ?_
        try simp only [Act.put, List.setIfInBounds_toArray, List.set_cons_zero, List.set_cons_succ]
        refine wpT_skip (i := 14) rfl (by kernel_rfl) (fun _ _ _ h => h) rfl ?_
        try simp only [Act.put, List.setIfInBounds_toArray, List.set_cons_zero, List.set_cons_succ]
        refine wpT_skip (i := 15) rfl (by kernel_rfl) (fun _ _ _ h => h) rfl ?_
        try simp only [Act.put, List.setIfInBounds_toArray, List.set_cons_zero, List.set_cons_succ]
        refine wpT_skip (i := 16) rfl (by kernel_rfl) (fun _ _ _ h => h) rfl ?_
        try simp only [Act.put, List.setIfInBounds_toArray, List.set_cons_zero, List.set_cons_succ]
        refine wpT_skip (i := 17) rfl (by kernel_rfl) (fun _ _ _ h => h) rfl ?_
        try simp only [Act.put, List.setIfInBounds_toArray, List.set_cons_zero, List.set_cons_succ]
        refine wpT_skip (i := 18) rfl (by kernel_rfl) (fun _ _ _ h => h) rfl ?_
        try simp only [Act.put, List.setIfInBounds_toArray, List.set_cons_zero, List.set_cons_succ]
        refine wpT_skip (i := 19) rfl (by kernel_rfl) (fun _ _ _ h => h) rfl ?_
        try simp only [Act.put, List.setIfInBounds_toArray, List.set_cons_zero, List.set_cons_succ]
        refine wpT_skip (i := 20) rfl (by kernel_rfl) (fun _ _ _ h => h) rfl ?_
        try simp only [Act.put, List.setIfInBounds_toArray, List.set_cons_zero, List.set_cons_succ]
        refine wpT_skip (i := 21) rfl (by kernel_rfl) (fun _ _ _ h => h) rfl ?_
        try simp only [Act.put, List.setIfInBounds_toArray, List.set_cons_zero, List.set_cons_succ]
        refine wpT_takeG (i := 22) (v := ?vb22) rfl (by kernel_rfl) (fun _ _ _ h => h) rfl ?yb22 ?rb22
        case yb22 => ((intro wz; go_simp); try with_reducible rfl)
        try simp only [Act.put, List.setIfInBounds_toArray, List.set_cons_zero, List.set_cons_succ]
        refine wpT_done (by kernel_rfl) ?_ _
        clear qn qm qz
        obtain ⟨w2, rfl⟩ : ∃ W, W = w3 := ⟨_, rfl⟩
        have S2 := S3; have B2 := B3; have BX := BX3; have CX := CX3
        clear S3 B3 BX3 CX3 HSW HB0 HS
        go_wp2_with fail
        by_cases hlast : t + 1 = N
        · have ql : ((t : Int) + 1 == (N : Int)) = true := by simp; omega
          have HSW0 : ∀ W, Below w2.heap.size w2 W → (fun W => W.cell? ⟨w1.heap.size, 0, none⟩ = some (.slice y1 ns.length y2) ∧ W.cell? ⟨w1.heap.size, 1, none⟩ = some (.int .i64 (l : Nat)) ∧ W.cell? ⟨w1.heap.size, 2, none⟩ = some (.slice (some ⟨b1, o1, none⟩) N p1)) W := fun W hb => ⟨cell_of_heap (o := 0) (heap_later BX.out hb) rfl, cell_of_heap (o := 1) (heap_later BX.out hb) rfl, cell_of_heap (o := 2) (heap_later BX.out hb) rfl⟩
          refine wp_region_T (fun W => W.cell? ⟨w1.heap.size, 0, none⟩ = some (.slice y1 ns.length y2) ∧ W.cell? ⟨w1.heap.size, 1, none⟩ = some (.int .i64 (l : Nat)) ∧ W.cell? ⟨w1.heap.size, 2, none⟩ = some (.slice (some ⟨b1, o1, none⟩) N p1)) [] [] run_mixed ?_
          simp only [List.size_toArray, List.length_cons, List.length_nil]
          have hb23 : Below w2.heap.size w2 w2.drew := (Below.refl _ _).drew
          have S3 : Hid (Scr w2.drew (.slice y1 ns.length y2) ns) := S2.out.later hb23
          have B3 := Lib.hid (B2.out.trans (hb23.mono B2.out.size))
          have BX3 := Lib.hid (heap_later BX.out hb23)
          have CX3 : Hid (∀ (k i : Nat), E[k]? = some i → ∀ W, Below w2.drew.heap.size w2.drew W → W.cell? ⟨b1, o1 + k, none⟩ = some (.int .i64 (i : Nat))) := fun k i hk W hb => CX.out k i hk W (hb23.trans (hb.mono hb23.size))
          have z23 : w2.drew.heap.size = w2.heap.size := rfl
          generalize w2.drew = w3 at *
          have HSW : Hid (∀ W, Below w3.heap.size w3 W → (fun W => W.cell? ⟨w1.heap.size, 0, none⟩ = some (.slice y1 ns.length y2) ∧ W.cell? ⟨w1.heap.size, 1, none⟩ = some (.int .i64 (l : Nat)) ∧ W.cell? ⟨w1.heap.size, 2, none⟩ = some (.slice (some ⟨b1, o1, none⟩) N p1)) W) := fun W hb => HSW0 W (hb23.trans (hb.mono (by rw [z23]; exact Nat.le_refl _)))
          have HB0 := Lib.hid (Below.refl w3.heap.size w3)
          have HS := HSW.out w3 HB0.out
          clear hb23 z23 HSW0 S2 B2 BX CX w2
          refine wpT_takeG (i := 0) (v := ?vl1_0) rfl (by kernel_rfl) (fun _ _ _ h => h) rfl ?yl1_0 ?rl1_0
          case yl1_0 => ((intro wz; go_simp); try with_reducible rfl)
          try simp only [Act.put, List.setIfInBounds_toArray, List.set_cons_zero, List.set_cons_succ]
          refine wpT_takeG (i := 1) (v := ?vl1_1) rfl (by kernel_rfl) (fun _ _ _ h => h) rfl ?yl1_1 ?rl1_1
          case yl1_1 => ((intro wz; go_simp); try with_reducible rfl)
          try simp only [Act.put, List.setIfInBounds_toArray, List.set_cons_zero, List.set_cons_succ]
          refine wpT_takeG (i := 2) (v := ?vl1_2) rfl (by kernel_rfl) (fun _ _ _ h => h) rfl ?yl1_2 ?rl1_2
          case yl1_2 => ((intro wz; go_simp); try with_reducible rfl)
          try simp only [Act.put, List.setIfInBounds_toArray, List.set_cons_zero, List.set_cons_succ]
          refine wpT_loadG (i := 3) (v := ?vl1_3) rfl (by kernel_rfl) (fun _ _ _ h => h) rfl ?yl1_3 HS ?rl1_3
          case yl1_3 => ((intro wz hSw; (try dsimp only at hSw); go_split_ands; go_simp); try with_reducible rfl)
          try simp only [Act.put, List.setIfInBounds_toArray, List.set_cons_zero, List.set_cons_succ]
          refine wpT_takeG (i := 4) (v := ?vl1_4) rfl (by kernel_rfl) (fun _ _ _ h => h) rfl ?yl1_4 ?rl1_4
          case yl1_4 => ((intro wz; go_simp); try with_reducible rfl)
          try simp only [Act.put, List.setIfInBounds_toArray, List.set_cons_zero, List.set_cons_succ]
          refine wpT_takeG (i := 5) (v := ?vl1_5) rfl (by kernel_rfl) (fun _ _ _ h => h) rfl ?yl1_5 ?rl1_5
          case yl1_5 => ((intro wz; go_simp); try with_reducible rfl)
          try simp only [Act.put, List.setIfInBounds_toArray, List.set_cons_zero, List.set_cons_succ]
          refine wpT_takeG (i := 6) (v := ?vl1_6) rfl (by kernel_rfl) (fun _ _ _ h => h) rfl ?yl1_6 ?rl1_6
          case yl1_6 => ((intro wz; go_simp); try with_reducible rfl)
          try simp only [Act.put, List.setIfInBounds_toArray, List.set_cons_zero, List.set_cons_succ]
          refine wpT_skip (i := 7) rfl (by kernel_rfl) (fun _ _ _ h => h) rfl ?_
          try simp only [Act.put, List.setIfInBounds_toArray, List.set_cons_zero, List.set_cons_succ]
          refine wpT_skip (i := 8) rfl (by kernel_rfl) (fun _ _ _ h => h) rfl ?_
          try simp only [Act.put, List.setIfInBounds_toArray, List.set_cons_zero, List.set_cons_succ]
          refine wpT_skip (i := 9) rfl (by kernel_rfl) (fun _ _ _ h => h) rfl ?_
          try simp only [Act.put, List.setIfInBounds_toArray, List.set_cons_zero, List.set_cons_succ]
          refine wpT_skip (i := 10) rfl (by kernel_rfl) (fun _ _ _ h => h) rfl ?_
          try simp only [Act.put, List.setIfInBounds_toArray, List.set_cons_zero, List.set_cons_succ]
          refine wpT_skip (i := 11) rfl (by kernel_rfl) (fun _ _ _ h => h) rfl ?_
          try simp only [Act.put, List.setIfInBounds_toArray, List.set_cons_zero, List.set_cons_succ]
          refine wpT_skip (i := 12) rfl (by kernel_rfl) (fun _ _ _ h => h) rfl ?_
          try simp only [Act.put, List.setIfInBounds_toArray, List.set_cons_zero, List.set_cons_succ]
          refine wpT_skip (i := 13) rfl (by kernel_rfl) (fun _ _ _ h => h) rfl ?_
          try simp only [Act.put, List.setIfInBounds_toArray, List.set_cons_zero, List.set_cons_succ]
          refine wpT_skip (i := 14) rfl (by kernel_rfl) (fun _ _ _ h => h) rfl ?_
          try simp only [Act.put, List.setIfInBounds_toArray, List.set_cons_zero, List.set_cons_succ]
          refine wpT_skip (i := 15) rfl (by kernel_rfl) (fun _ _ _ h => h) rfl ?_
          try simp only [Act.put, List.setIfInBounds_toArray, List.set_cons_zero, List.set_cons_succ]
          refine wpT_skip (i := 16) rfl (by kernel_rfl) (fun _ _ _ h => h) rfl ?_
          try simp only [Act.put, List.setIfInBounds_toArray, List.set_cons_zero, List.set_cons_succ]
          refine wpT_skip (i := 17) rfl (by kernel_rfl) (fun _ _ _ h => h) rfl ?_
          try simp only [Act.put, List.setIfInBounds_toArray, List.set_cons_zero, List.set_cons_succ]
          refine wpT_skip (i := 18) rfl (by kernel_rfl) (fun _ _ _ h => h) rfl ?_
          try simp only [Act.put, List.setIfInBounds_toArray, List.set_cons_zero, List.set_cons_succ]
          refine wpT_skip (i := 19) rfl (by kernel_rfl) (fun _ _ _ h => h) rfl ?_
          try simp only [Act.put, List.setIfInBounds_toArray, List.set_cons_zero, List.set_cons_succ]
          refine wpT_skip (i := 20) rfl (by kernel_rfl) (fun _ _ _ h => h) rfl ?_
          try simp only [Act.put, List.setIfInBounds_toArray, List.set_cons_zero, List.set_cons_succ]
          refine wpT_skip (i := 21) rfl (by kernel_rfl) (fun _ _ _ h => h) rfl ?_
          try simp only [Act.put, List.setIfInBounds_toArray, List.set_cons_zero, List.set_cons_succ]
          refine wpT_skip (i := 22) rfl (by kernel_rfl) (fun _ _ _ h => h) rfl ?_
          try simp only [Act.put, List.setIfInBounds_toArray, List.set_cons_zero, List.set_cons_succ]
          refine wpT_skip (i := 23) rfl (by kernel_rfl) (fun _ _ _ h => h) rfl ?_
          try simp only [Act.put, List.setIfInBounds_toArray, List.set_cons_zero, List.set_cons_succ]
          refine wpT_skip (i := 24) rfl (by kernel_rfl) (fun _ _ _ h => h) rfl ?_
          try simp only [Act.put, List.setIfInBounds_toArray, List.set_cons_zero, List.set_cons_succ]
          refine wpT_takeG (i := 25) (v := ?vm1_25) rfl (by kernel_rfl) (fun _ _ _ h => h) rfl ?ym1_25 ?rm1_25
          case ym1_25 => ((intro wz; go_simp); try with_reducible rfl)
          try simp only [Act.put, List.setIfInBounds_toArray, List.set_cons_zero, List.set_cons_succ]
          refine wpT_takeG (i := 26) (v := ?vm1_26) rfl (by kernel_rfl) (fun _ _ _ h => h) rfl ?ym1_26 ?rm1_26
          case ym1_26 => ((intro wz; go_simp); try with_reducible rfl)
          try simp only [Act.put, List.setIfInBounds_toArray, List.set_cons_zero, List.set_cons_succ]
          refine wpT_done (by kernel_rfl) ?_ _
          go_wp2
          go_ret
          exact ⟨rfl, B3.out⟩
        · have ql : ((t : Int) + 1 == (N : Int)) = false := by
              have : ¬ ((t : Int) + 1 = (N : Int)) := by omega
              simpa using this
          obtain ⟨ix, hix⟩ := GX.out hlast
          obtain ⟨d1, d2⟩ := BF0.out ix hix
          have D1 := Lib.hid d1; have D2 := Lib.hid d2; have HIX := Lib.hid hix
          have tN2 : t + 1 < N := by omega
          have c3 : (t : Int) + 1 < (N : Int) := by omega
          clear d1 d2 hix hlast
          have HSW0 : ∀ W, Below w2.heap.size w2 W → (fun W => W.cell? ⟨w1.heap.size, 0, none⟩ = some (.slice y1 ns.length y2) ∧ W.cell? ⟨w1.heap.size, 1, none⟩ = some (.int .i64 (l : Nat)) ∧ W.cell? ⟨w1.heap.size, 2, none⟩ = some (.slice (some ⟨b1, o1, none⟩) N p1) ∧ W.cell? ⟨b1, o1 + (t + 1), none⟩ = some (.int .i64 (ix : Nat))) W := fun W hb => ⟨cell_of_heap (o := 0) (heap_later BX.out hb) rfl, cell_of_heap (o := 1) (heap_later BX.out hb) rfl, cell_of_heap (o := 2) (heap_later BX.out hb) rfl, CX.out (t + 1) ix HIX.out W hb⟩
          refine wp_region_T (fun W => W.cell? ⟨w1.heap.size, 0, none⟩ = some (.slice y1 ns.length y2) ∧ W.cell? ⟨w1.heap.size, 1, none⟩ = some (.int .i64 (l : Nat)) ∧ W.cell? ⟨w1.heap.size, 2, none⟩ = some (.slice (some ⟨b1, o1, none⟩) N p1) ∧ W.cell? ⟨b1, o1 + (t + 1), none⟩ = some (.int .i64 (ix : Nat))) [20, 21, 24] [] run_mixed ?_
          simp only [List.size_toArray, List.length_cons, List.length_nil]
          have hb23 : Below w2.heap.size w2 w2.drew := (Below.refl _ _).drew
          have S3 : Hid (Scr w2.drew (.slice y1 ns.length y2) ns) := S2.out.later hb23
          have B3 := Lib.hid (B2.out.trans (hb23.mono B2.out.size))
          have BX3 := Lib.hid (heap_later BX.out hb23)
          have CX3 : Hid (∀ (k i : Nat), E[k]? = some i → ∀ W, Below w2.drew.heap.size w2.drew W → W.cell? ⟨b1, o1 + k, none⟩ = some (.int .i64 (i : Nat))) := fun k i hk W hb => CX.out k i hk W (hb23.trans (hb.mono hb23.size))
          have z23 : w2.drew.heap.size = w2.heap.size := rfl
          generalize w2.drew = w3 at *
          have HSW : Hid (∀ W, Below w3.heap.size w3 W → (fun W => W.cell? ⟨w1.heap.size, 0, none⟩ = some (.slice y1 ns.length y2) ∧ W.cell? ⟨w1.heap.size, 1, none⟩ = some (.int .i64 (l : Nat)) ∧ W.cell? ⟨w1.heap.size, 2, none⟩ = some (.slice (some ⟨b1, o1, none⟩) N p1) ∧ W.cell? ⟨b1, o1 + (t + 1), none⟩ = some (.int .i64 (ix : Nat))) W) := fun W hb => HSW0 W (hb23.trans (hb.mono (by rw [z23]; exact Nat.le_refl _)))
          have HB0 := Lib.hid (Below.refl w3.heap.size w3)
          have HS := HSW.out w3 HB0.out
          clear hb23 z23 HSW0 S2 B2 BX CX w2
          refine wpT_takeG (i := 0) (v := ?vn1_0) rfl (by kernel_rfl) (fun _ _ _ h => h) rfl ?yn1_0 ?rn1_0
          case yn1_0 => ((intro wz; go_simp); try with_reducible rfl)
          try simp only [Act.put, List.setIfInBounds_toArray, List.set_cons_zero, List.set_cons_succ]
          refine wpT_takeG (i := 1) (v := ?vn1_1) rfl (by kernel_rfl) (fun _ _ _ h => h) rfl ?yn1_1 ?rn1_1
          case yn1_1 => ((intro wz; go_simp); try with_reducible rfl)
          try simp only [Act.put, List.setIfInBounds_toArray, List.set_cons_zero, List.set_cons_succ]
          refine wpT_takeG (i := 2) (v := ?vn1_2) rfl (by kernel_rfl) (fun _ _ _ h => h) rfl ?yn1_2 ?rn1_2
          case yn1_2 => ((intro wz; go_simp); try with_reducible rfl)
          try simp only [Act.put, List.setIfInBounds_toArray, List.set_cons_zero, List.set_cons_succ]
          refine wpT_loadG (i := 3) (v := ?vn1_3) rfl (by kernel_rfl) (fun _ _ _ h => h) rfl ?yn1_3 HS ?rn1_3
          case yn1_3 => ((intro wz hSw; (try dsimp only at hSw); go_split_ands; go_simp); try with_reducible rfl)
          try simp only [Act.put, List.setIfInBounds_toArray, List.set_cons_zero, List.set_cons_succ]
          refine wpT_takeG (i := 4) (v := ?vn1_4) rfl (by kernel_rfl) (fun _ _ _ h => h) rfl ?yn1_4 ?rn1_4
          case yn1_4 => ((intro wz; go_simp); try with_reducible rfl)
          try simp only [Act.put, List.setIfInBounds_toArray, List.set_cons_zero, List.set_cons_succ]
          refine wpT_takeG (i := 5) (v := ?vn1_5) rfl (by kernel_rfl) (fun _ _ _ h => h) rfl ?yn1_5 ?rn1_5
          case yn1_5 => ((intro wz; go_simp); try with_reducible rfl)
          try simp only [Act.put, List.setIfInBounds_toArray, List.set_cons_zero, List.set_cons_succ]
          refine wpT_takeG (i := 6) (v := ?vn1_6) rfl (by kernel_rfl) (fun _ _ _ h => h) rfl ?yn1_6 ?rn1_6
          case yn1_6 => ((intro wz; go_simp); try with_reducible rfl)
          try simp only [Act.put, List.setIfInBounds_toArray, List.set_cons_zero, List.set_cons_succ]
          refine wpT_takeG (i := 7) (v := ?vn1_7) rfl (by kernel_rfl) (fun _ _ _ h => h) rfl ?yn1_7 ?rn1_7
          case yn1_7 => ((intro wz; go_simp); try with_reducible rfl)
          try simp only [Act.put, List.setIfInBounds_toArray, List.set_cons_zero, List.set_cons_succ]
          refine wpT_loadG (i := 8) (v := ?vn1_8) rfl (by kernel_rfl) (fun _ _ _ h => h) rfl ?yn1_8 HS ?rn1_8
          case yn1_8 => ((intro wz hSw; (try dsimp only at hSw); go_split_ands; go_simp); try with_reducible rfl)
          try simp only [Act.put, List.setIfInBounds_toArray, List.set_cons_zero, List.set_cons_succ]
          refine wpT_loadG (i := 9) (v := ?vn1_9) rfl (by kernel_rfl) (fun _ _ _ h => h) rfl ?yn1_9 HS ?rn1_9
          case yn1_9 => ((intro wz hSw; (try dsimp only at hSw); go_split_ands; go_simp); try with_reducible rfl)
          try simp only [Act.put, List.setIfInBounds_toArray, List.set_cons_zero, List.set_cons_succ]
          refine wpT_takeG (i := 10) (v := ?vn1_10) rfl (by kernel_rfl) (fun _ _ _ h => h) rfl ?yn1_10 ?rn1_10
          case yn1_10 => ((intro wz; go_simp); try with_reducible rfl)
          try simp only [Act.put, List.setIfInBounds_toArray, List.set_cons_zero, List.set_cons_succ]
          refine wpT_takeG (i := 11) (v := ?vn1_11) rfl (by kernel_rfl) (fun _ _ _ h => h) rfl ?yn1_11 ?rn1_11
          case yn1_11 => ((intro wz; go_simp); try with_reducible rfl)
          try simp only [Act.put, List.setIfInBounds_toArray, List.set_cons_zero, List.set_cons_succ]
          refine wpT_takeG (i := 12) (v := ?vn1_12) rfl (by kernel_rfl) (fun _ _ _ h => h) rfl ?yn1_12 ?rn1_12
          case yn1_12 => ((intro wz; go_simp); try with_reducible rfl)
          try simp only [Act.put, List.setIfInBounds_toArray, List.set_cons_zero, List.set_cons_succ]
          refine wpT_takeG (i := 13) (v := ?vn1_13) rfl (by kernel_rfl) (fun _ _ _ h => h) rfl ?yn1_13 ?rn1_13
          case yn1_13 => ((intro wz; go_simp); try with_reducible rfl)
          try simp only [Act.put, List.setIfInBounds_toArray, List.set_cons_zero, List.set_cons_succ]
          refine wpT_loadG (i := 14) (v := ?vn1_14) rfl (by kernel_rfl) (fun _ _ _ h => h) rfl ?yn1_14 HS ?rn1_14
          case yn1_14 => ((intro wz hSw; (try dsimp only at hSw); go_split_ands; go_simp); try with_reducible rfl)
          try simp only [Act.put, List.setIfInBounds_toArray, List.set_cons_zero, List.set_cons_succ]
          refine wpT_takeG (i := 15) (v := ?vn1_15) rfl (by kernel_rfl) (fun _ _ _ h => h) rfl ?yn1_15 ?rn1_15
          case yn1_15 => ((intro wz; go_simp); try with_reducible rfl)
          try simp only [Act.put, List.setIfInBounds_toArray, List.set_cons_zero, List.set_cons_succ]
          refine wpT_takeG (i := 16) (v := ?vn1_16) rfl (by kernel_rfl) (fun _ _ _ h => h) rfl ?yn1_16 ?rn1_16
          case yn1_16 => ((intro wz; go_simp); try with_reducible rfl)
          try simp only [Act.put, List.setIfInBounds_toArray, List.set_cons_zero, List.set_cons_succ]
          refine wpT_takeG (i := 17) (v := ?vn1_17) rfl (by kernel_rfl) (fun _ _ _ h => h) rfl ?yn1_17 ?rn1_17
          case yn1_17 => ((intro wz; go_simp); try with_reducible rfl)
          try simp only [Act.put, List.setIfInBounds_toArray, List.set_cons_zero, List.set_cons_succ]
          refine wpT_loadG (i := 18) (v := ?vn1_18) rfl (by kernel_rfl) (fun _ _ _ h => h) rfl ?yn1_18 HS ?rn1_18
          case yn1_18 => ((intro wz hSw; (try dsimp only at hSw); go_split_ands; go_simp); try with_reducible rfl)
          try simp only [Act.put, List.setIfInBounds_toArray, List.set_cons_zero, List.set_cons_succ]
          refine wpT_takeG (i := 19) (v := ?vn1_19) rfl (by kernel_rfl) (fun _ _ _ h => h) rfl ?yn1_19 ?rn1_19
          case yn1_19 => ((intro wz; go_simp); try with_reducible rfl)
          try simp only [Act.put, List.setIfInBounds_toArray, List.set_cons_zero, List.set_cons_succ]
          refine wpT_takeG (i := 22) (v := ?vn1_22) rfl (by kernel_rfl) (fun _ _ _ h => h) rfl ?yn1_22 ?rn1_22
          case yn1_22 => ((intro wz; go_simp); try with_reducible rfl)
          try simp only [Act.put, List.setIfInBounds_toArray, List.set_cons_zero, List.set_cons_succ]
          refine wpT_loadG (i := 23) (v := ?vn1_23) rfl (by kernel_rfl) (fun _ _ _ h => h) rfl ?yn1_23 HS ?rn1_23
          case yn1_23 => ((intro wz hSw; (try dsimp only at hSw); go_split_ands; go_simp); try with_reducible rfl)
          try simp only [Act.put, List.setIfInBounds_toArray, List.set_cons_zero, List.set_cons_succ]
          refine wpT_runG (i := 20) (by kernel_rfl) rfl rfl ?_
          go_simp
          have SF1 : Hid (Scr (w3.alloc (.cells #[.int .i64 8, .int .i64 0, .int .i64 0, .int .i64 i, .int .i64 0, .int .i64 0, .int .i64 0, .string ⟨#[]⟩, .int .i64 9, .int .i64 0, .int .i64 0, .int .i64 i, .int .i64 ix, .int .i64 0, .int .i64 0, .string ⟨#[]⟩] 29)) (.slice y1 ns.length y2) ns) := S3.out.later (below1 _ _)
          have SF2 : Hid (Scr (w3.alloc (.cells #[.int .i64 8, .int .i64 0, .int .i64 0, .int .i64 i, .int .i64 0, .int .i64 0, .int .i64 0, .string ⟨#[]⟩, .int .i64 9, .int .i64 0, .int .i64 0, .int .i64 i, .int .i64 ix, .int .i64 0, .int .i64 0, .string ⟨#[]⟩] 29)) (.slice (some ⟨w3.heap.size, 0, none⟩) 2 2) [cMv 8 i 0, cMv 9 i ix]) := scr_lit w3 [cMv 8 i 0, cMv 9 i ix] 29 (w3.heap.size) 2 (by simp) rfl (by simp [cMv]; exact vl_zero_ok)
          refine ⟨cond_keep (by decide) (HSW.out _ (HB0.out.trans ((below1 w3 _).mono HB0.out.size))), ?_⟩
          refine wpT_runG (i := 21) (by kernel_rfl) rfl rfl ?_
          go_simp
          refine (with_c (ns := ns) (cl := [cMv 8 i 0, cMv 9 i ix]) (l := l) SF1.out SF2.out ⟨_, _, _, rfl⟩ (by simp; omega)).mono ?_
          rintro r W3 ⟨va4, rfl, sa5, hb6⟩
          have HB7 := Lib.hid ((HB0.out.trans ((below1 w3 _).mono HB0.out.size)).trans (hb6.mono ((HB0.out.trans ((below1 w3 _).mono HB0.out.size))).size))
          have SF8 : Hid (Scr W3 (.slice y1 ns.length y2) ns) := SF1.out.later hb6
          have SF9 := Lib.hid sa5
          clear sa5 hb6
          refine ⟨cond_keep (by decide) (HSW.out _ HB7.out), ?_⟩
          refine wpT_runG (i := 24) (by kernel_rfl) rfl rfl ?_
          go_simp
          refine (alike_c SF8.out SF9.out SF8.out D1.out SC.out.ok (HL.out _) (fun l hl => mem_lists l hl) (fun k _ => D2.out k) (by decide) (by omega) (by simp; omega) (by omega)).mono ?_
          rintro r wf ⟨rfl, hbf⟩
          have hbx := HB7.out.trans (hbf.mono HB7.out.size)
          refine ⟨cond_keep (by decide) (HSW.out _ hbx), ?_⟩
          have SN := Lib.hid (SF8.out.later hbf)
          have BF := Lib.hid (B3.out.trans (hbx.mono B3.out.size))
          clear hbf hbx
          refine wpT_takeG (i := 25) (v := ?vp1_25) rfl (by kernel_rfl) (fun _ _ _ h => h) rfl ?yp1_25 ?rp1_25
          case yp1_25 => ((intro wz; go_simp); try with_reducible rfl)
          try simp only [Act.put, List.setIfInBounds_toArray, List.set_cons_zero, List.set_cons_succ]
          refine wpT_takeG (i := 26) (v := ?vp1_26) rfl (by kernel_rfl) (fun _ _ _ h => h) rfl ?yp1_26 ?rp1_26
          case yp1_26 => ((intro wz; go_simp); try with_reducible rfl)
          try simp only [Act.put, List.setIfInBounds_toArray, List.set_cons_zero, List.set_cons_succ]
          refine wpT_done (by kernel_rfl) ?_ _
          go_wp2
          go_ret
          exact ⟨rfl, BF.out⟩
      · have qz : decide ((0 : Int) < (t : Int)) = true := by simp; omega
        obtain ⟨ip, hip⟩ := GP.out (t - 1) (by omega)
        obtain ⟨a1, a2⟩ := FB.out (t - 1) ip (by omega) hip
        have A1 := Lib.hid a1; have A2 := Lib.hid a2; have HIP := Lib.hid hip
        clear a1 a2 hip
        have wq1 : IntKind.i64.wrap ((t : Int) - 1) = (t : Int) - 1 := by rw [IntKind.wrap_i64]; omega
        have wn1 : ((t : Int) - 1).toNat = t - 1 := by omega
        have w01 : 0 ≤ (t : Int) - 1 := by omega
        have tN1 : t - 1 < N := by omega
        have c1 : 1 ≤ (t : Int) := by omega
        have c2 : (t : Int) - 1 < (N : Int) := by omega
        have HSW0 : ∀ W, Below w2.heap.size w2 W → (fun W => W.cell? ⟨w1.heap.size, 0, none⟩ = some (.slice y1 ns.length y2) ∧ W.cell? ⟨w1.heap.size, 1, none⟩ = some (.int .i64 (l : Nat)) ∧ W.cell? ⟨w1.heap.size, 2, none⟩ = some (.slice (some ⟨b1, o1, none⟩) N p1) ∧ W.cell? ⟨b1, o1 + (t - 1), none⟩ = some (.int .i64 (ip : Nat))) W := fun W hb => ⟨cell_of_heap (o := 0) (heap_later BX.out hb) rfl, cell_of_heap (o := 1) (heap_later BX.out hb) rfl, cell_of_heap (o := 2) (heap_later BX.out hb) rfl, CX.out (t - 1) ip HIP.out W hb⟩
        refine wp_region_T (fun W => W.cell? ⟨w1.heap.size, 0, none⟩ = some (.slice y1 ns.length y2) ∧ W.cell? ⟨w1.heap.size, 1, none⟩ = some (.int .i64 (l : Nat)) ∧ W.cell? ⟨w1.heap.size, 2, none⟩ = some (.slice (some ⟨b1, o1, none⟩) N p1) ∧ W.cell? ⟨b1, o1 + (t - 1), none⟩ = some (.int .i64 (ip : Nat))) [16, 17, 20] [] run_mixed ?_
        simp only [List.size_toArray, List.length_cons, List.length_nil]
        have hb23 : Below w2.heap.size w2 w2.drew := (Below.refl _ _).drew
        have S3 : Hid (Scr w2.drew (.slice y1 ns.length y2) ns) := S2.out.later hb23
        have B3 := Lib.hid (B2.out.trans (hb23.mono B2.out.size))
        have BX3 := Lib.hid (heap_later BX.out hb23)
        have CX3 : Hid (∀ (k i : Nat), E[k]? = some i → ∀ W, Below w2.drew.heap.size w2.drew W → W.cell? ⟨b1, o1 + k, none⟩ = some (.int .i64 (i : Nat))) := fun k i hk W hb => CX.out k i hk W (hb23.trans (hb.mono hb23.size))
        have z23 : w2.drew.heap.size = w2.heap.size := rfl
        generalize w2.drew = w3 at *
        have HSW : Hid (∀ W, Below w3.heap.size w3 W → (fun W => W.cell? ⟨w1.heap.size, 0, none⟩ = some (.slice y1 ns.length y2) ∧ W.cell? ⟨w1.heap.size, 1, none⟩ = some (.int .i64 (l : Nat)) ∧ W.cell? ⟨w1.heap.size, 2, none⟩ = some (.slice (some ⟨b1, o1, none⟩) N p1) ∧ W.cell? ⟨b1, o1 + (t - 1), none⟩ = some (.int .i64 (ip : Nat))) W) := fun W hb => HSW0 W (hb23.trans (hb.mono (by rw [z23]; exact Nat.le_refl _)))
        have HB0 := Lib.hid (Below.refl w3.heap.size w3)
        have HS := HSW.out w3 HB0.out
        clear hb23 z23 HSW0 S2 B2 BX CX w2
        refine wpT_takeG (i := 0) (v := ?vc0) rfl (by kernel_rfl) (fun _ _ _ h => h) rfl ?yc0 ?rc0
        case yc0 => ((intro wz; go_simp); try with_reducible rfl)
        try simp only [Act.put, List.setIfInBounds_toArray, List.set_cons_zero, List.set_cons_succ]
        refine wpT_takeG (i := 1) (v := ?vc1) rfl (by kernel_rfl) (fun _ _ _ h => h) rfl ?yc1 ?rc1
        case yc1 => ((intro wz; go_simp); try with_reducible rfl)
        try simp only [Act.put, List.setIfInBounds_toArray, List.set_cons_zero, List.set_cons_succ]
        refine wpT_takeG (i := 2) (v := ?vc2) rfl (by kernel_rfl) (fun _ _ _ h => h) rfl ?yc2 ?rc2
        case yc2 => ((intro wz; go_simp); try with_reducible rfl)
        try simp only [Act.put, List.setIfInBounds_toArray, List.set_cons_zero, List.set_cons_succ]
        refine wpT_takeG (i := 3) (v := ?vc3) rfl (by kernel_rfl) (fun _ _ _ h => h) rfl ?yc3 ?rc3
        case yc3 => ((intro wz; go_simp); try with_reducible rfl)
        try simp only [Act.put, List.setIfInBounds_toArray, List.set_cons_zero, List.set_cons_succ]
        refine wpT_loadG (i := 4) (v := ?vc4) rfl (by kernel_rfl) (fun _ _ _ h => h) rfl ?yc4 HS ?rc4
        case yc4 => ((intro wz hSw; (try dsimp only at hSw); go_split_ands; go_simp); try with_reducible rfl)
        try simp only [Act.put, List.setIfInBounds_toArray, List.set_cons_zero, List.set_cons_succ]
        refine wpT_loadG (i := 5) (v := ?vc5) rfl (by kernel_rfl) (fun _ _ _ h => h) rfl ?yc5 HS ?rc5
        case yc5 => ((intro wz hSw; (try dsimp only at hSw); go_split_ands; go_simp); try with_reducible rfl)
        try simp only [Act.put, List.setIfInBounds_toArray, List.set_cons_zero, List.set_cons_succ]
        refine wpT_takeG (i := 6) (v := ?vc6) rfl (by kernel_rfl) (fun _ _ _ h => h) rfl ?yc6 ?rc6
        case yc6 => ((intro wz; go_simp); try with_reducible rfl)
        try simp only [Act.put, List.setIfInBounds_toArray, List.set_cons_zero, List.set_cons_succ]
        refine wpT_takeG (i := 7) (v := ?vc7) rfl (by kernel_rfl) (fun _ _ _ h => h) rfl ?yc7 ?rc7
        case yc7 => ((intro wz; go_simp); try with_reducible rfl)
        try simp only [Act.put, List.setIfInBounds_toArray, List.set_cons_zero, List.set_cons_succ]
        refine wpT_takeG (i := 8) (v := ?vc8) rfl (by kernel_rfl) (fun _ _ _ h => h) rfl ?yc8 ?rc8
        case yc8 => ((intro wz; go_simp); try with_reducible rfl)
        try simp only [Act.put, List.setIfInBounds_toArray, List.set_cons_zero, List.set_cons_succ]
        refine wpT_takeG (i := 9) (v := ?vc9) rfl (by kernel_rfl) (fun _ _ _ h => h) rfl ?yc9 ?rc9
        case yc9 => ((intro wz; go_simp); try with_reducible rfl)
        try simp only [Act.put, List.setIfInBounds_toArray, List.set_cons_zero, List.set_cons_succ]
        refine wpT_loadG (i := 10) (v := ?vc10) rfl (by kernel_rfl) (fun _ _ _ h => h) rfl ?yc10 HS ?rc10
        case yc10 => ((intro wz hSw; (try dsimp only at hSw); go_split_ands; go_simp); try with_reducible rfl)
        try simp only [Act.put, List.setIfInBounds_toArray, List.set_cons_zero, List.set_cons_succ]
        refine wpT_takeG (i := 11) (v := ?vc11) rfl (by kernel_rfl) (fun _ _ _ h => h) rfl ?yc11 ?rc11
        case yc11 => ((intro wz; go_simp); try with_reducible rfl)
        try simp only [Act.put, List.setIfInBounds_toArray, List.set_cons_zero, List.set_cons_succ]
        refine wpT_takeG (i := 12) (v := ?vc12) rfl (by kernel_rfl) (fun _ _ _ h => h) rfl ?yc12 ?rc12
        case yc12 => ((intro wz; go_simp); try with_reducible rfl)
        try simp only [Act.put, List.setIfInBounds_toArray, List.set_cons_zero, List.set_cons_succ]
        refine wpT_takeG (i := 13) (v := ?vc13) rfl (by kernel_rfl) (fun _ _ _ h => h) rfl ?yc13 ?rc13
        case yc13 => ((intro wz; go_simp); try with_reducible rfl)
        try simp only [Act.put, List.setIfInBounds_toArray, List.set_cons_zero, List.set_cons_succ]
        refine wpT_loadG (i := 14) (v := ?vc14) rfl (by kernel_rfl) (fun _ _ _ h => h) rfl ?yc14 HS ?rc14
        case yc14 => ((intro wz hSw; (try dsimp only at hSw); go_split_ands; go_simp); try with_reducible rfl)
        try simp only [Act.put, List.setIfInBounds_toArray, List.set_cons_zero, List.set_cons_succ]
        refine wpT_takeG (i := 15) (v := ?vc15) rfl (by kernel_rfl) (fun _ _ _ h => h) rfl ?yc15 ?rc15
        case yc15 => ((intro wz; go_simp); try with_reducible rfl)
        try simp only [Act.put, List.setIfInBounds_toArray, List.set_cons_zero, List.set_cons_succ]
        refine wpT_takeG (i := 18) (v := ?vc18) rfl (by kernel_rfl) (fun _ _ _ h => h) rfl ?yc18 ?rc18
        case yc18 => ((intro wz; go_simp); try with_reducible rfl)
        try simp only [Act.put, List.setIfInBounds_toArray, List.set_cons_zero, List.set_cons_succ]
        refine wpT_loadG (i := 19) (v := ?vc19) rfl (by kernel_rfl) (fun _ _ _ h => h) rfl ?yc19 HS ?rc19
        case yc19 => ((intro wz hSw; (try dsimp only at hSw); go_split_ands; go_simp); try with_reducible rfl)
        try simp only [Act.put, List.setIfInBounds_toArray, List.set_cons_zero, List.set_cons_succ]
        refine wpT_runG (i := 16) (by kernel_rfl) rfl rfl ?_
        go_simp
        have SF10 : Hid (Scr (w3.alloc (.cells #[.int .i64 7, .int .i64 0, .int .i64 0, .int .i64 i, .int .i64 0, .int .i64 0, .int .i64 0, .string ⟨#[]⟩, .int .i64 10, .int .i64 0, .int .i64 0, .int .i64 i, .int .i64 ip, .int .i64 0, .int .i64 0, .string ⟨#[]⟩] 29)) (.slice y1 ns.length y2) ns) := S3.out.later (below1 _ _)
        have SF11 : Hid (Scr (w3.alloc (.cells #[.int .i64 7, .int .i64 0, .int .i64 0, .int .i64 i, .int .i64 0, .int .i64 0, .int .i64 0, .string ⟨#[]⟩, .int .i64 10, .int .i64 0, .int .i64 0, .int .i64 i, .int .i64 ip, .int .i64 0, .int .i64 0, .string ⟨#[]⟩] 29)) (.slice (some ⟨w3.heap.size, 0, none⟩) 2 2) [cMv 7 i 0, cMv 10 i ip]) := scr_lit w3 [cMv 7 i 0, cMv 10 i ip] 29 (w3.heap.size) 2 (by simp) rfl (by simp [cMv]; exact vl_zero_ok)
        refine ⟨cond_keep (by decide) (HSW.out _ (HB0.out.trans ((below1 w3 _).mono HB0.out.size))), ?_⟩
        refine wpT_runG (i := 17) (by kernel_rfl) rfl rfl ?_
        go_simp
        refine (with_c (ns := ns) (cl := [cMv 7 i 0, cMv 10 i ip]) (l := l) SF10.out SF11.out ⟨_, _, _, rfl⟩ (by simp; omega)).mono ?_
        rintro r W12 ⟨va13, rfl, sa14, hb15⟩
        have HB16 := Lib.hid ((HB0.out.trans ((below1 w3 _).mono HB0.out.size)).trans (hb15.mono ((HB0.out.trans ((below1 w3 _).mono HB0.out.size))).size))
        have SF17 : Hid (Scr W12 (.slice y1 ns.length y2) ns) := SF10.out.later hb15
        have SF18 := Lib.hid sa14
        clear sa14 hb15
        refine ⟨cond_keep (by decide) (HSW.out _ HB16.out), ?_⟩
        refine wpT_runG (i := 20) (by kernel_rfl) rfl rfl ?_
        go_simp
        refine (alike_c SF17.out SF18.out SF17.out A1.out SC.out.ok (HL.out _) (fun l hl => mem_lists l hl) (fun k _ => A2.out k) (by decide) (by omega) (by simp; omega) (by omega)).mono ?_
        rintro r wf ⟨rfl, hbf⟩
        have hbx := HB16.out.trans (hbf.mono HB16.out.size)
        refine ⟨cond_keep (by decide) (HSW.out _ hbx), ?_⟩
        have SN := Lib.hid (SF17.out.later hbf)
        have B2 := Lib.hid (B3.out.trans (hbx.mono B3.out.size))
        have S2 := SN
        have BX := Lib.hid (heap_later BX3.out hbx)
        have CX : Hid (∀ (k i : Nat), E[k]? = some i → ∀ W, Below wf.heap.size wf W → W.cell? ⟨b1, o1 + k, none⟩ = some (.int .i64 (i : Nat))) := fun k i hk W hb => CX3.out k i hk W (hbx.trans (hb.mono hbx.size))
        clear hbf hbx SN
        refine wpT_takeG (i := 21) (v := ?vd21) rfl (by kernel_rfl) (fun _ _ _ h => h) rfl ?yd21 ?rd21
        case yd21 => ((intro wz; go_simp); try with_reducible rfl)
        try simp only [Act.put, List.setIfInBounds_toArray, List.set_cons_zero, List.set_cons_succ]
        refine wpT_takeG (i := 22) (v := ?vd22) rfl (by kernel_rfl) (fun _ _ _ h => h) rfl ?yd22 ?rd22
        case yd22 => ((intro wz; go_simp); try with_reducible rfl)
        try simp only [Act.put, List.setIfInBounds_toArray, List.set_cons_zero, List.set_cons_succ]
        refine wpT_done (by kernel_rfl) ?_ _
        clear S3 B3 BX3 CX3 HSW HB0 HS wq1 wn1 w01 tN1 c1 c2
        obtain ⟨w2, rfl⟩ : ∃ W, W = wf := ⟨_, rfl⟩
        go_wp2_with fail
        by_cases hlast : t + 1 = N
        · have ql : ((t : Int) + 1 == (N : Int)) = true := by simp; omega
          have HSW0 : ∀ W, Below w2.heap.size w2 W → (fun W => W.cell? ⟨w1.heap.size, 0, none⟩ = some (.slice y1 ns.length y2) ∧ W.cell? ⟨w1.heap.size, 1, none⟩ = some (.int .i64 (l : Nat)) ∧ W.cell? ⟨w1.heap.size, 2, none⟩ = some (.slice (some ⟨b1, o1, none⟩) N p1)) W := fun W hb => ⟨cell_of_heap (o := 0) (heap_later BX.out hb) rfl, cell_of_heap (o := 1) (heap_later BX.out hb) rfl, cell_of_heap (o := 2) (heap_later BX.out hb) rfl⟩
          refine wp_region_T (fun W => W.cell? ⟨w1.heap.size, 0, none⟩ = some (.slice y1 ns.length y2) ∧ W.cell? ⟨w1.heap.size, 1, none⟩ = some (.int .i64 (l : Nat)) ∧ W.cell? ⟨w1.heap.size, 2, none⟩ = some (.slice (some ⟨b1, o1, none⟩) N p1)) [] [] run_mixed ?_
          simp only [List.size_toArray, List.length_cons, List.length_nil]
          have hb23 : Below w2.heap.size w2 w2.drew := (Below.refl _ _).drew
          have S3 : Hid (Scr w2.drew (.slice y1 ns.length y2) ns) := S2.out.later hb23
          have B3 := Lib.hid (B2.out.trans (hb23.mono B2.out.size))
          have BX3 := Lib.hid (heap_later BX.out hb23)
          have CX3 : Hid (∀ (k i : Nat), E[k]? = some i → ∀ W, Below w2.drew.heap.size w2.drew W → W.cell? ⟨b1, o1 + k, none⟩ = some (.int .i64 (i : Nat))) := fun k i hk W hb => CX.out k i hk W (hb23.trans (hb.mono hb23.size))
          have z23 : w2.drew.heap.size = w2.heap.size := rfl
          generalize w2.drew = w3 at *
          have HSW : Hid (∀ W, Below w3.heap.size w3 W → (fun W => W.cell? ⟨w1.heap.size, 0, none⟩ = some (.slice y1 ns.length y2) ∧ W.cell? ⟨w1.heap.size, 1, none⟩ = some (.int .i64 (l : Nat)) ∧ W.cell? ⟨w1.heap.size, 2, none⟩ = some (.slice (some ⟨b1, o1, none⟩) N p1)) W) := fun W hb => HSW0 W (hb23.trans (hb.mono (by rw [z23]; exact Nat.le_refl _)))
          have HB0 := Lib.hid (Below.refl w3.heap.size w3)
          have HS := HSW.out w3 HB0.out
          clear hb23 z23 HSW0 S2 B2 BX CX w2
          refine wpT_takeG (i := 0) (v := ?vl2_0) rfl (by kernel_rfl) (fun _ _ _ h => h) rfl ?yl2_0 ?rl2_0
          case yl2_0 => ((intro wz; go_simp); try with_reducible rfl)
          try simp only [Act.put, List.setIfInBounds_toArray, List.set_cons_zero, List.set_cons_succ]
          refine wpT_takeG (i := 1) (v := ?vl2_1) rfl (by kernel_rfl) (fun _ _ _ h => h) rfl ?yl2_1 ?rl2_1
          case yl2_1 => ((intro wz; go_simp); try with_reducible rfl)
          try simp only [Act.put, List.setIfInBounds_toArray, List.set_cons_zero, List.set_cons_succ]
          refine wpT_takeG (i := 2) (v := ?vl2_2) rfl (by kernel_rfl) (fun _ _ _ h => h) rfl ?yl2_2 ?rl2_2
          case yl2_2 => ((intro wz; go_simp); try with_reducible rfl)
          try simp only [Act.put, List.setIfInBounds_toArray, List.set_cons_zero, List.set_cons_succ]
          refine wpT_loadG (i := 3) (v := ?vl2_3) rfl (by kernel_rfl) (fun _ _ _ h => h) rfl ?yl2_3 HS ?rl2_3
          case yl2_3 => ((intro wz hSw; (try dsimp only at hSw); go_split_ands; go_simp); try with_reducible rfl)
          try simp only [Act.put, List.setIfInBounds_toArray, List.set_cons_zero, List.set_cons_succ]
          refine wpT_takeG (i := 4) (v := ?vl2_4) rfl (by kernel_rfl) (fun _ _ _ h => h) rfl ?yl2_4 ?rl2_4
          case yl2_4 => ((intro wz; go_simp); try with_reducible rfl)
          try simp only [Act.put, List.setIfInBounds_toArray, List.set_cons_zero, List.set_cons_succ]
          refine wpT_takeG (i := 5) (v := ?vl2_5) rfl (by kernel_rfl) (fun _ _ _ h => h) rfl ?yl2_5 ?rl2_5
          case yl2_5 => ((intro wz; go_simp); try with_reducible rfl)
          try simp only [Act.put, List.setIfInBounds_toArray, List.set_cons_zero, List.set_cons_succ]
          refine wpT_takeG (i := 6) (v := ?vl2_6) rfl (by kernel_rfl) (fun _ _ _ h => h) rfl ?yl2_6 ?rl2_6
          case yl2_6 => ((intro wz; go_simp); try with_reducible rfl)
          try simp only [Act.put, List.setIfInBounds_toArray, List.set_cons_zero, List.set_cons_succ]
          refine wpT_skip (i := 7) rfl (by kernel_rfl) (fun _ _ _ h => h) rfl ?_
          try simp only [Act.put, List.setIfInBounds_toArray, List.set_cons_zero, List.set_cons_succ]
          refine wpT_skip (i := 8) rfl (by kernel_rfl) (fun _ _ _ h => h) rfl ?_
          try simp only [Act.put, List.setIfInBounds_toArray, List.set_cons_zero, List.set_cons_succ]
          refine wpT_skip (i := 9) rfl (by kernel_rfl) (fun _ _ _ h => h) rfl ?_
          try simp only [Act.put, List.setIfInBounds_toArray, List.set_cons_zero, List.set_cons_succ]
          refine wpT_skip (i := 10) rfl (by kernel_rfl) (fun _ _ _ h => h) rfl ?_
          try simp only [Act.put, List.setIfInBounds_toArray, List.set_cons_zero, List.set_cons_succ]
          refine wpT_skip (i := 11) rfl (by kernel_rfl) (fun _ _ _ h => h) rfl ?_
          try simp only [Act.put, List.setIfInBounds_toArray, List.set_cons_zero, List.set_cons_succ]
          refine wpT_skip (i := 12) rfl (by kernel_rfl) (fun _ _ _ h => h) rfl ?_
          try simp only [Act.put, List.setIfInBounds_toArray, List.set_cons_zero, List.set_cons_succ]
          refine wpT_skip (i := 13) rfl (by kernel_rfl) (fun _ _ _ h => h) rfl ?_
          try simp only [Act.put, List.setIfInBounds_toArray, List.set_cons_zero, List.set_cons_succ]
          refine wpT_skip (i := 14) rfl (by kernel_rfl) (fun _ _ _ h => h) rfl ?_
          try simp only [Act.put, List.setIfInBounds_toArray, List.set_cons_zero, List.set_cons_succ]
          refine wpT_skip (i := 15) rfl (by kernel_rfl) (fun _ _ _ h => h) rfl ?_
          try simp only [Act.put, List.setIfInBounds_toArray, List.set_cons_zero, List.set_cons_succ]
          refine wpT_skip (i := 16) rfl (by kernel_rfl) (fun _ _ _ h => h) rfl ?_
          try simp only [Act.put, List.setIfInBounds_toArray, List.set_cons_zero, List.set_cons_succ]
          refine wpT_skip (i := 17) rfl (by kernel_rfl) (fun _ _ _ h => h) rfl ?_
          try simp only [Act.put, List.setIfInBounds_toArray, List.set_cons_zero, List.set_cons_succ]
          refine wpT_skip (i := 18) rfl (by kernel_rfl) (fun _ _ _ h => h) rfl ?_
          try simp only [Act.put, List.setIfInBounds_toArray, List.set_cons_zero, List.set_cons_succ]
          refine wpT_skip (i := 19) rfl (by kernel_rfl) (fun _ _ _ h => h) rfl ?_
          try simp only [Act.put, List.setIfInBounds_toArray, List.set_cons_zero, List.set_cons_succ]
          refine wpT_skip (i := 20) rfl (by kernel_rfl) (fun _ _ _ h => h) rfl ?_
          try simp only [Act.put, List.setIfInBounds_toArray, List.set_cons_zero, List.set_cons_succ]
          refine wpT_skip (i := 21) rfl (by kernel_rfl) (fun _ _ _ h => h) rfl ?_
          try simp only [Act.put, List.setIfInBounds_toArray, List.set_cons_zero, List.set_cons_succ]
          refine wpT_skip (i := 22) rfl (by kernel_rfl) (fun _ _ _ h => h) rfl ?_
          try simp only [Act.put, List.setIfInBounds_toArray, List.set_cons_zero, List.set_cons_succ]
          refine wpT_skip (i := 23) rfl (by kernel_rfl) (fun _ _ _ h => h) rfl ?_
          try simp only [Act.put, List.setIfInBounds_toArray, List.set_cons_zero, List.set_cons_succ]
          refine wpT_skip (i := 24) rfl (by kernel_rfl) (fun _ _ _ h => h) rfl ?_
          try simp only [Act.put, List.setIfInBounds_toArray, List.set_cons_zero, List.set_cons_succ]
          refine wpT_takeG (i := 25) (v := ?vm2_25) rfl (by kernel_rfl) (fun _ _ _ h => h) rfl ?ym2_25 ?rm2_25
          case ym2_25 => ((intro wz; go_simp); try with_reducible rfl)
          try simp only [Act.put, List.setIfInBounds_toArray, List.set_cons_zero, List.set_cons_succ]
          refine wpT_takeG (i := 26) (v := ?vm2_26) rfl (by kernel_rfl) (fun _ _ _ h => h) rfl ?ym2_26 ?rm2_26
          case ym2_26 => ((intro wz; go_simp); try with_reducible rfl)
          try simp only [Act.put, List.setIfInBounds_toArray, List.set_cons_zero, List.set_cons_succ]
          refine wpT_done (by kernel_rfl) ?_ _
          go_wp2
          go_ret
          exact ⟨rfl, B3.out⟩
        · have ql : ((t : Int) + 1 == (N : Int)) = false := by
              have : ¬ ((t : Int) + 1 = (N : Int)) := by omega
              simpa using this
          obtain ⟨ix, hix⟩ := GX.out hlast
          obtain ⟨d1, d2⟩ := BF0.out ix hix
          have D1 := Lib.hid d1; have D2 := Lib.hid d2; have HIX := Lib.hid hix
          have tN2 : t + 1 < N := by omega
          have c3 : (t : Int) + 1 < (N : Int) := by omega
          clear d1 d2 hix hlast
          have HSW0 : ∀ W, Below w2.heap.size w2 W → (fun W => W.cell? ⟨w1.heap.size, 0, none⟩ = some (.slice y1 ns.length y2) ∧ W.cell? ⟨w1.heap.size, 1, none⟩ = some (.int .i64 (l : Nat)) ∧ W.cell? ⟨w1.heap.size, 2, none⟩ = some (.slice (some ⟨b1, o1, none⟩) N p1) ∧ W.cell? ⟨b1, o1 + (t + 1), none⟩ = some (.int .i64 (ix : Nat))) W := fun W hb => ⟨cell_of_heap (o := 0) (heap_later BX.out hb) rfl, cell_of_heap (o := 1) (heap_later BX.out hb) rfl, cell_of_heap (o := 2) (heap_later BX.out hb) rfl, CX.out (t + 1) ix HIX.out W hb⟩
          refine wp_region_T (fun W => W.cell? ⟨w1.heap.size, 0, none⟩ = some (.slice y1 ns.length y2) ∧ W.cell? ⟨w1.heap.size, 1, none⟩ = some (.int .i64 (l : Nat)) ∧ W.cell? ⟨w1.heap.size, 2, none⟩ = some (.slice (some ⟨b1, o1, none⟩) N p1) ∧ W.cell? ⟨b1, o1 + (t + 1), none⟩ = some (.int .i64 (ix : Nat))) [20, 21, 24] [] run_mixed ?_
          simp only [List.size_toArray, List.length_cons, List.length_nil]
          have hb23 : Below w2.heap.size w2 w2.drew := (Below.refl _ _).drew
          have S3 : Hid (Scr w2.drew (.slice y1 ns.length y2) ns) := S2.out.later hb23
          have B3 := Lib.hid (B2.out.trans (hb23.mono B2.out.size))
          have BX3 := Lib.hid (heap_later BX.out hb23)
          have CX3 : Hid (∀ (k i : Nat), E[k]? = some i → ∀ W, Below w2.drew.heap.size w2.drew W → W.cell? ⟨b1, o1 + k, none⟩ = some (.int .i64 (i : Nat))) := fun k i hk W hb => CX.out k i hk W (hb23.trans (hb.mono hb23.size))
          have z23 : w2.drew.heap.size = w2.heap.size := rfl
          generalize w2.drew = w3 at *
          have HSW : Hid (∀ W, Below w3.heap.size w3 W → (fun W => W.cell? ⟨w1.heap.size, 0, none⟩ = some (.slice y1 ns.length y2) ∧ W.cell? ⟨w1.heap.size, 1, none⟩ = some (.int .i64 (l : Nat)) ∧ W.cell? ⟨w1.heap.size, 2, none⟩ = some (.slice (some ⟨b1, o1, none⟩) N p1) ∧ W.cell? ⟨b1, o1 + (t + 1), none⟩ = some (.int .i64 (ix : Nat))) W) := fun W hb => HSW0 W (hb23.trans (hb.mono (by rw [z23]; exact Nat.le_refl _)))
          have HB0 := Lib.hid (Below.refl w3.heap.size w3)
          have HS := HSW.out w3 HB0.out
          clear hb23 z23 HSW0 S2 B2 BX CX w2
          refine wpT_takeG (i := 0) (v := ?vn2_0) rfl (by kernel_rfl) (fun _ _ _ h => h) rfl ?yn2_0 ?rn2_0
          case yn2_0 => ((intro wz; go_simp); try with_reducible rfl)
          try simp only [Act.put, List.setIfInBounds_toArray, List.set_cons_zero, List.set_cons_succ]
          refine wpT_takeG (i := 1) (v := ?vn2_1) rfl (by kernel_rfl) (fun _ _ _ h => h) rfl ?yn2_1 ?rn2_1
          case yn2_1 => ((intro wz; go_simp); try with_reducible rfl)
          try simp only [Act.put, List.setIfInBounds_toArray, List.set_cons_zero, List.set_cons_succ]
          refine wpT_takeG (i := 2) (v := ?vn2_2) rfl (by kernel_rfl) (fun _ _ _ h => h) rfl ?yn2_2 ?rn2_2
          case yn2_2 => ((intro wz; go_simp); try with_reducible rfl)
          try simp only [Act.put, List.setIfInBounds_toArray, List.set_cons_zero, List.set_cons_succ]
          refine wpT_loadG (i := 3) (v := ?vn2_3) rfl (by kernel_rfl) (fun _ _ _ h => h) rfl ?yn2_3 HS ?rn2_3
          case yn2_3 => ((intro wz hSw; (try dsimp only at hSw); go_split_ands; go_simp); try with_reducible rfl)
          try simp only [Act.put, List.setIfInBounds_toArray, List.set_cons_zero, List.set_cons_succ]
          refine wpT_takeG (i := 4) (v := ?vn2_4) rfl (by kernel_rfl) (fun _ _ _ h => h) rfl ?yn2_4 ?rn2_4
          case yn2_4 => ((intro wz; go_simp); try with_reducible rfl)
          try simp only [Act.put, List.setIfInBounds_toArray, List.set_cons_zero, List.set_cons_succ]
          refine wpT_takeG (i := 5) (v := ?vn2_5) rfl (by kernel_rfl) (fun _ _ _ h => h) rfl ?yn2_5 ?rn2_5
          case yn2_5 => ((intro wz; go_simp); try with_reducible rfl)
          try simp only [Act.put, List.setIfInBounds_toArray, List.set_cons_zero, List.set_cons_succ]
          refine wpT_takeG (i := 6) (v := ?vn2_6) rfl (by kernel_rfl) (fun _ _ _ h => h) rfl ?yn2_6 ?rn2_6
          case yn2_6 => ((intro wz; go_simp); try with_reducible rfl)
          try simp only [Act.put, List.setIfInBounds_toArray, List.set_cons_zero, List.set_cons_succ]
          refine wpT_takeG (i := 7) (v := ?vn2_7) rfl (by kernel_rfl) (fun _ _ _ h => h) rfl ?yn2_7 ?rn2_7
          case yn2_7 => ((intro wz; go_simp); try with_reducible rfl)
          try simp only [Act.put, List.setIfInBounds_toArray, List.set_cons_zero, List.set_cons_succ]
          refine wpT_loadG (i := 8) (v := ?vn2_8) rfl (by kernel_rfl) (fun _ _ _ h => h) rfl ?yn2_8 HS ?rn2_8
          case yn2_8 => ((intro wz hSw; (try dsimp only at hSw); go_split_ands; go_simp); try with_reducible rfl)
          try simp only [Act.put, List.setIfInBounds_toArray, List.set_cons_zero, List.set_cons_succ]
          refine wpT_loadG (i := 9) (v := ?vn2_9) rfl (by kernel_rfl) (fun _ _ _ h => h) rfl ?yn2_9 HS ?rn2_9
          case yn2_9 => ((intro wz hSw; (try dsimp only at hSw); go_split_ands; go_simp); try with_reducible rfl)
          try simp only [Act.put, List.setIfInBounds_toArray, List.set_cons_zero, List.set_cons_succ]
          refine wpT_takeG (i := 10) (v := ?vn2_10) rfl (by kernel_rfl) (fun _ _ _ h => h) rfl ?yn2_10 ?rn2_10
          case yn2_10 => ((intro wz; go_simp); try with_reducible rfl)
          try simp only [Act.put, List.setIfInBounds_toArray, List.set_cons_zero, List.set_cons_succ]
          refine wpT_takeG (i := 11) (v := ?vn2_11) rfl (by kernel_rfl) (fun _ _ _ h => h) rfl ?yn2_11 ?rn2_11
          case yn2_11 => ((intro wz; go_simp); try with_reducible rfl)
          try simp only [Act.put, List.setIfInBounds_toArray, List.set_cons_zero, List.set_cons_succ]
          refine wpT_takeG (i := 12) (v := ?vn2_12) rfl (by kernel_rfl) (fun _ _ _ h => h) rfl ?yn2_12 ?rn2_12
          case yn2_12 => ((intro wz; go_simp); try with_reducible rfl)
          try simp only [Act.put, List.setIfInBounds_toArray, List.set_cons_zero, List.set_cons_succ]
          refine wpT_takeG (i := 13) (v := ?vn2_13) rfl (by kernel_rfl) (fun _ _ _ h => h) rfl ?yn2_13 ?rn2_13
          case yn2_13 => ((intro wz; go_simp); try with_reducible rfl)
          try simp only [Act.put, List.setIfInBounds_toArray, List.set_cons_zero, List.set_cons_succ]
          refine wpT_loadG (i := 14) (v := ?vn2_14) rfl (by kernel_rfl) (fun _ _ _ h => h) rfl ?yn2_14 HS ?rn2_14
          case yn2_14 => ((intro wz hSw; (try dsimp only at hSw); go_split_ands; go_simp); try with_reducible rfl)
          try simp only [Act.put, List.setIfInBounds_toArray, List.set_cons_zero, List.set_cons_succ]
          refine wpT_takeG (i := 15) (v := ?vn2_15) rfl (by kernel_rfl) (fun _ _ _ h => h) rfl ?yn2_15 ?rn2_15
          case yn2_15 => ((intro wz; go_simp); try with_reducible rfl)
          try simp only [Act.put, List.setIfInBounds_toArray, List.set_cons_zero, List.set_cons_succ]
          refine wpT_takeG (i := 16) (v := ?vn2_16) rfl (by kernel_rfl) (fun _ _ _ h => h) rfl ?yn2_16 ?rn2_16
          case yn2_16 => ((intro wz; go_simp); try with_reducible rfl)
          try simp only [Act.put, List.setIfInBounds_toArray, List.set_cons_zero, List.set_cons_succ]
          refine wpT_takeG (i := 17) (v := ?vn2_17) rfl (by kernel_rfl) (fun _ _ _ h => h) rfl ?yn2_17 ?rn2_17
          case yn2_17 => ((intro wz; go_simp); try with_reducible rfl)
          try simp only [Act.put, List.setIfInBounds_toArray, List.set_cons_zero, List.set_cons_succ]
          refine wpT_loadG (i := 18) (v := ?vn2_18) rfl (by kernel_rfl) (fun _ _ _ h => h) rfl ?yn2_18 HS ?rn2_18
          case yn2_18 => ((intro wz hSw; (try dsimp only at hSw); go_split_ands; go_simp); try with_reducible rfl)
          try simp only [Act.put, List.setIfInBounds_toArray, List.set_cons_zero, List.set_cons_succ]
          refine wpT_takeG (i := 19) (v := ?vn2_19) rfl (by kernel_rfl) (fun _ _ _ h => h) rfl ?yn2_19 ?rn2_19
          case yn2_19 => ((intro wz; go_simp); try with_reducible rfl)
          try simp only [Act.put, List.setIfInBounds_toArray, List.set_cons_zero, List.set_cons_succ]
          refine wpT_takeG (i := 22) (v := ?vn2_22) rfl (by kernel_rfl) (fun _ _ _ h => h) rfl ?yn2_22 ?rn2_22
          case yn2_22 => ((intro wz; go_simp); try with_reducible rfl)
          try simp only [Act.put, List.setIfInBounds_toArray, List.set_cons_zero, List.set_cons_succ]
          refine wpT_loadG (i := 23) (v := ?vn2_23) rfl (by kernel_rfl) (fun _ _ _ h => h) rfl ?yn2_23 HS ?rn2_23
          case yn2_23 => ((intro wz hSw; (try dsimp only at hSw); go_split_ands; go_simp); try with_reducible rfl)
          try simp only [Act.put, List.setIfInBounds_toArray, List.set_cons_zero, List.set_cons_succ]
          refine wpT_runG (i := 20) (by kernel_rfl) rfl rfl ?_
          go_simp
          have SF19 : Hid (Scr (w3.alloc (.cells #[.int .i64 8, .int .i64 0, .int .i64 0, .int .i64 i, .int .i64 0, .int .i64 0, .int .i64 0, .string ⟨#[]⟩, .int .i64 9, .int .i64 0, .int .i64 0, .int .i64 i, .int .i64 ix, .int .i64 0, .int .i64 0, .string ⟨#[]⟩] 29)) (.slice y1 ns.length y2) ns) := S3.out.later (below1 _ _)
          have SF20 : Hid (Scr (w3.alloc (.cells #[.int .i64 8, .int .i64 0, .int .i64 0, .int .i64 i, .int .i64 0, .int .i64 0, .int .i64 0, .string ⟨#[]⟩, .int .i64 9, .int .i64 0, .int .i64 0, .int .i64 i, .int .i64 ix, .int .i64 0, .int .i64 0, .string ⟨#[]⟩] 29)) (.slice (some ⟨w3.heap.size, 0, none⟩) 2 2) [cMv 8 i 0, cMv 9 i ix]) := scr_lit w3 [cMv 8 i 0, cMv 9 i ix] 29 (w3.heap.size) 2 (by simp) rfl (by simp [cMv]; exact vl_zero_ok)
          refine ⟨cond_keep (by decide) (HSW.out _ (HB0.out.trans ((below1 w3 _).mono HB0.out.size))), ?_⟩
          refine wpT_runG (i := 21) (by kernel_rfl) rfl rfl ?_
          go_simp
          refine (with_c (ns := ns) (cl := [cMv 8 i 0, cMv 9 i ix]) (l := l) SF19.out SF20.out ⟨_, _, _, rfl⟩ (by simp; omega)).mono ?_
          rintro r W21 ⟨va22, rfl, sa23, hb24⟩
          have HB25 := Lib.hid ((HB0.out.trans ((below1 w3 _).mono HB0.out.size)).trans (hb24.mono ((HB0.out.trans ((below1 w3 _).mono HB0.out.size))).size))
          have SF26 : Hid (Scr W21 (.slice y1 ns.length y2) ns) := SF19.out.later hb24
          have SF27 := Lib.hid sa23
          clear sa23 hb24
          refine ⟨cond_keep (by decide) (HSW.out _ HB25.out), ?_⟩
          refine wpT_runG (i := 24) (by kernel_rfl) rfl rfl ?_
          go_simp
          refine (alike_c SF26.out SF27.out SF26.out D1.out SC.out.ok (HL.out _) (fun l hl => mem_lists l hl) (fun k _ => D2.out k) (by decide) (by omega) (by simp; omega) (by omega)).mono ?_
          rintro r wf ⟨rfl, hbf⟩
          have hbx := HB25.out.trans (hbf.mono HB25.out.size)
          refine ⟨cond_keep (by decide) (HSW.out _ hbx), ?_⟩
          have SN := Lib.hid (SF26.out.later hbf)
          have BF := Lib.hid (B3.out.trans (hbx.mono B3.out.size))
          clear hbf hbx
          refine wpT_takeG (i := 25) (v := ?vp2_25) rfl (by kernel_rfl) (fun _ _ _ h => h) rfl ?yp2_25 ?rp2_25
          case yp2_25 => ((intro wz; go_simp); try with_reducible rfl)
          try simp only [Act.put, List.setIfInBounds_toArray, List.set_cons_zero, List.set_cons_succ]
          refine wpT_takeG (i := 26) (v := ?vp2_26) rfl (by kernel_rfl) (fun _ _ _ h => h) rfl ?yp2_26 ?rp2_26
          case yp2_26 => ((intro wz; go_simp); try with_reducible rfl)
          try simp only [Act.put, List.setIfInBounds_toArray, List.set_cons_zero, List.set_cons_succ]
          refine wpT_done (by kernel_rfl) ?_ _
          go_wp2
          go_ret
          exact ⟨rfl, BF.out⟩
  · have CH := Lib.hid (fun k o => chosen_nil ((nil_nats w1).later (below1 w1 o)) rfl k)
    simp only [scene0]
    go_wp2_with fail
    refine (CH.out k _).mono ?_
    rintro r w2 ⟨rfl, rfl⟩
    clear CH
    go_wp2
    go_ret
    exact ⟨rfl, B1.out.trans ((below1 w1 _).mono B1.out.size)⟩
end Bead
end Go.Proofs.Ytdmichkekipdpaa
