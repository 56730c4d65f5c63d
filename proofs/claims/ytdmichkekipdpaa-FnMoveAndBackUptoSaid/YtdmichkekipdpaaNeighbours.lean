/- FnNeighboursChangePlaces returns true. -/
import Derived.Test.YtdmichkekipdpaaMoveEnd
set_option linter.all false
namespace Go.Proofs.Ytdmichkekipdpaa
open Go.RowKit
namespace Bead
set_option maxRecDepth 100000

theorem idx_mid {u z : List Nat} {a : Nat} (h : a ∉ u) : (u ++ a :: z).idxOf a = u.length := by
  induction u with
  | nil => simp
  | cons c u ih =>
    simp only [List.mem_cons, not_or] at h
    have hz : (c == a) = false := by simpa using fun q => h.1 q.symm
    rw [List.cons_append, List.idxOf_cons, hz]
    simp [ih h.2]
/-- A sequence parted at two neighbours. -/
theorem part_two {s : List Nat} {k a b : Nat} (hn : s.Nodup) (ha : s[k]? = some a) (hb : s[k + 1]? = some b) : ∃ u z, s = u ++ a :: b :: z ∧ a ≠ b ∧ a ∉ u ∧ b ∉ u ∧ a ∉ z ∧ b ∉ z := by
  obtain ⟨h1, e1⟩ := List.getElem?_eq_some_iff.1 ha
  obtain ⟨h2, e2⟩ := List.getElem?_eq_some_iff.1 hb
  have e : s = s.take k ++ a :: b :: s.drop (k + 2) := by
    conv => lhs; rw [← List.take_append_drop k s, List.drop_eq_getElem_cons h1, e1, List.drop_eq_getElem_cons h2, e2]
  refine ⟨_, _, e, ?_⟩
  rw [e] at hn
  have hd := List.nodup_append.1 hn
  have hd2 := List.nodup_cons.1 hd.2.1
  have hd3 := List.nodup_cons.1 hd2.2
  refine ⟨fun q => hd2.1 (by simp [q]), fun q => hd.2.2 a q a (by simp) rfl, fun q => hd.2.2 b q b (by simp) rfl, fun q => hd2.1 (by simp [q]), hd3.1⟩
theorem swap_1 {u z : List Nat} {a b : Nat} (h : a ≠ b) (h1 : a ∉ u) (h2 : b ∉ u) (h3 : a ∉ z) (h4 : b ∉ z) : ins (posOf 10 b (rm a (u ++ a :: b :: z))) a (rm a (u ++ a :: b :: z)) = u ++ b :: a :: z := by
  have e : rm a (u ++ a :: b :: z) = u ++ b :: z := by rw [rm_append, rm_cons_same, rm_cons_other (fun q => h q.symm), rm_none h1, rm_none h3]
  rw [e]
  have p : posOf 10 b (u ++ b :: z) = (u ++ [b]).length := by simp [posOf, idx_mid h2]
  rw [p, show u ++ b :: z = (u ++ [b]) ++ z by simp, ins_at]; simp
theorem swap_2 {u z : List Nat} {a b : Nat} (h : a ≠ b) (h1 : a ∉ u) (h2 : b ∉ u) (h3 : a ∉ z) (h4 : b ∉ z) : ins (posOf 9 a (rm b (u ++ a :: b :: z))) b (rm b (u ++ a :: b :: z)) = u ++ b :: a :: z := by
  have e : rm b (u ++ a :: b :: z) = u ++ a :: z := by rw [rm_append, rm_cons_other h, rm_cons_same, rm_none h2, rm_none h4]
  rw [e]
  have p : posOf 9 a (u ++ a :: z) = u.length := by simp [posOf, idx_mid h1]
  rw [p, ins_at]
theorem neigh {ns : List Cl} {l : Nat} (h : Scened ns l) {k a b i j : Nat} (ha : ((runFrom Md.init ns).seq l)[k]? = some a) (hb : ((runFrom Md.init ns).seq l)[k + 1]? = some b) (hi : (runFrom Md.init ns).ret i = some a) (hj : (runFrom Md.init ns).ret j = some b) :
    (okFrom 500 Md.init (ns ++ [onL l (cMv 10 i j)]) = true ∧ okFrom 500 Md.init (ns ++ [onL l (cMv 9 j i)]) = true ∧ ∀ k, Look k (runFrom Md.init (ns ++ [onL l (cMv 10 i j)])) (runFrom Md.init (ns ++ [onL l (cMv 9 j i)]))) ∧
    okFrom 500 Md.init (ns ++ [onL l (cMv 10 i j), onL l (cMv 10 j i)]) = true ∧ ∀ k, Look k (runFrom Md.init (ns ++ [onL l (cMv 10 i j), onL l (cMv 10 j i)])) (runFrom Md.init ns) := by
  have hw := h.wf
  have nd := hw.nodup l
  have ham := List.mem_of_getElem? ha
  have hbm := List.mem_of_getElem? hb
  obtain ⟨u, z, hs, h0, h1, h2, h3, h4⟩ := part_two nd ha hb
  have pa := perm_mv hw (op := 10) (by simp) h.lst hi ham (j := j) (x := b) (fun _ => ⟨hj, hbm⟩) (most := 500)
  have pb := perm_mv hw (op := 9) (by simp) h.lst hj hbm (j := i) (x := a) (fun _ => ⟨hi, ham⟩) (most := 500)
  have sa := mv_step (m := runFrom Md.init ns) (op := 10) (x := b) (j := j) (by simp) hi ham (fun _ => ⟨hj, hbm, fun q => h0 q.symm⟩)
  have sb := mv_step (m := runFrom Md.init ns) (op := 9) (x := a) (j := i) (by simp) hj hbm (fun _ => ⟨hi, ham, h0⟩)
  have ea : ((runFrom Md.init ns).step (onL l (cMv 10 i j))).1 = (runFrom Md.init ns).grow.setSeq l (u ++ b :: a :: z) := by rw [sa, hs, swap_1 h0 h1 h2 h3 h4]
  have eb : ((runFrom Md.init ns).step (onL l (cMv 9 j i))).1 = (runFrom Md.init ns).grow.setSeq l (u ++ b :: a :: z) := by rw [sb, hs, swap_2 h0 h1 h2 h3 h4]
  refine ⟨mvs_look h pa pb (fun e he => ?_) ea eb, ?_⟩
  · rw [hs]; simp at he ⊢; rcases he with q | q | q | q <;> simp [q]
  · have hw1 := hw.step pa
    rw [ea] at hw1
    have sq : ((runFrom Md.init ns).grow.setSeq l (u ++ b :: a :: z)).seq l = u ++ b :: a :: z := upd_same _ _ _
    have hb1 : b ∈ ((runFrom Md.init ns).grow.setSeq l (u ++ b :: a :: z)).seq l := by rw [sq]; simp
    have ha1 : a ∈ ((runFrom Md.init ns).grow.setSeq l (u ++ b :: a :: z)).seq l := by rw [sq]; simp
    have pc := perm_mv hw1 (op := 10) (by simp) (l := l) h.lst hj hb1 (j := i) (x := a) (fun _ => ⟨hi, ha1⟩) (most := 500)
    have sc := mv_step (m := (runFrom Md.init ns).grow.setSeq l (u ++ b :: a :: z)) (op := 10) (x := a) (j := i) (l := l) (by simp) hj hb1 (fun _ => ⟨hi, ha1, h0⟩)
    rw [sq, swap_1 (fun q => h0 q.symm) h2 h1 h4 h3] at sc
    refine ⟨?_, fun k => ?_⟩
    · rw [okFrom_append, h.ok]
      simp only [okFrom, Bool.and_true, Bool.true_and, Bool.and_eq_true]
      refine ⟨(permitted_iff _ _ _).2 pa, ?_⟩
      rw [ea]; exact (permitted_iff _ _ _).2 pc
    · rw [runFrom_append]
      show Look k (((runFrom Md.init ns).step (onL l (cMv 10 i j))).1.step (onL l (cMv 10 j i))).1 _
      rw [ea, sc]
      have q1 : (((runFrom Md.init ns).grow.setSeq l (u ++ b :: a :: z)).grow.setSeq l (u ++ a :: b :: z)).seq = (runFrom Md.init ns).seq := by
        show upd (upd (runFrom Md.init ns).seq l _) l _ = _
        rw [← hs]
        funext k; simp only [upd]; split
        · rename_i q; rw [q]
        · rfl
      refine ⟨by rw [q1], fun _ _ => rfl, fun e he => ?_⟩
      rw [q1] at he
      obtain ⟨n, hn⟩ := h.named k e he
      exact ⟨n, hn, hn⟩

set_option maxHeartbeats 8000000 in
theorem neigh_c {w : World} {v : Value} {cs : List Cl} (s : Scr w v cs) (hn : cs.length ≤ 1048576) (n k : Int) :
    Calls Try.prog 5 #[v, .int .i64 n, .int .i64 k] w fun r w' => r = .returned (.bool true) ∧ Below w.heap.size w w' := by
  have ST := Lib.hid (set_c s hn n)
  clear s
  go_enter Try.func5, Try.ntmps5
  go_wp2_with fail
  refine ST.out.mono ?_
  rintro r w1 ⟨hb1, hcase⟩
  have B1 := Lib.hid hb1
  clear hb1 ST
  rcases hcase with ⟨l, vs, ve, rfl, hsc, hok0, hl0, hs1, hn1⟩ | rfl
  · have SC := Lib.hid hsc; have S1 := Lib.hid hs1; have N1 := Lib.hid hn1
    generalize hns : namedC cs = ns at *
    clear hns hsc hok0 hl0
    obtain ⟨y1, y2, rfl⟩ := hs1.form
    have NL := Lib.hid (names_length (m := runFrom Md.init ns) ((runFrom Md.init ns).seq l))
    have hlen := scene_len SC.out
    generalize hNN : ((runFrom Md.init ns).names ((runFrom Md.init ns).seq l)).length = N at *
    by_cases hE : N < 2
    · obtain ⟨x1, x2, rfl⟩ := hn1.form
      rw [hNN]
      clear hs1 hn1 hNN
      go_wp2
      go_ret
      exact ⟨rfl, B1.out.trans ((below1 w1 _).mono B1.out.size)⟩
    · have hN5 : N ≤ 500 := by rw [← NL.out] at hlen; exact hlen
      obtain ⟨b1, o1, p1, hv1, cell1⟩ := hn1.cells (by intro q; rw [q] at hNN; simp at hNN; omega)
      rw [hNN] at hv1
      subst hv1
      obtain ⟨t, ht, hm⟩ := umod k (k := N - 1) (by omega) (by omega)
      obtain ⟨i, hi⟩ : ∃ i, ((runFrom Md.init ns).names ((runFrom Md.init ns).seq l))[t]? = some i := ⟨_, List.getElem?_eq_getElem (by omega)⟩
      obtain ⟨j, hj⟩ : ∃ i, ((runFrom Md.init ns).names ((runFrom Md.init ns).seq l))[t + 1]? = some i := ⟨_, List.getElem?_eq_getElem (by omega)⟩
      have c0 := cell1 t i hi
      have c1 := cell1 (t + 1) j hj
      have hbl : b1 < w1.heap.size := World.block_lt_of_cell? w1 _ c0
      obtain ⟨ea, hea, _, hra⟩ := scene_get SC.out hi
      obtain ⟨eb, heb, _, hrb⟩ := scene_get SC.out hj
      obtain ⟨⟨a1, a2, a3⟩, d1, d3⟩ := neigh SC.out hea heb hra hrb
      have A1 := Lib.hid a1; have A2 := Lib.hid a2; have A3 := Lib.hid a3; have D1 := Lib.hid d1; have D3 := Lib.hid d3
      have HL := Lib.hid (fun (m : List Cl) (k : Nat) (hk : k ∈ listsOf ns) => show (runFrom Md.init (ns ++ m)).isL k = true by rw [runFrom_append]; exact run_isL_mono m (mem_lists k hk))
      have LN := SC.out.len
      have hm' : wrap64 ((IntKind.u64.wrap k).tmod ((N : Int) - 1)) = (t : Int) := by rw [← hm]; congr 2; omega
      have hN2 : 2 ≤ N := by omega
      have tN : t + 1 < N := by omega
      clear hs1 hn1 hE hNN hi hj cell1 hea hra heb hrb a1 a2 a3 d1 d3 hlen ht hm
      go_wp2_with fail
      rw [hm']
      have wq : IntKind.i64.wrap ((t : Int) + 1) = (t : Int) + 1 := by rw [IntKind.wrap_i64]; omega
      have wn : ((t : Int) + 1).toNat = t + 1 := by omega
      have w0 : 0 ≤ (t : Int) + 1 := by omega
      go_quiet (fail)
      obtain ⟨wb, hwb⟩ : ∃ W, W = (w1.alloc (.cells #[.slice y1 ns.length y2, .int .i64 (l : Nat), .slice (some ⟨b1, o1, none⟩) N p1] 34)).drewN nq := ⟨_, rfl⟩
      have hbb : Below w1.heap.size w1 wb := by rw [hwb]; exact Below.drewN' (below1 w1 _) _
      have BXb : wb.heap[w1.heap.size]? = some (.cells #[.slice y1 ns.length y2, .int .i64 (l : Nat), .slice (some ⟨b1, o1, none⟩) N p1] 34 (0, 0)) := by rw [hwb]; exact heap_alloc_new w1 _
      rw [← hwb]
      clear hwb c0 c1 hbl wq wn w0 hm'
      obtain ⟨w2, hw2⟩ : ∃ W, W = wb.alloc (.cells #[.int .i64 10, .int .i64 0, .int .i64 0, .int .i64 i, .int .i64 j, .int .i64 0, .int .i64 0, .string ⟨#[]⟩] 29) := ⟨_, rfl⟩
      obtain ⟨gc, hgc⟩ : ∃ g, g = wb.heap.size := ⟨_, rfl⟩
      have hb2 : Below wb.heap.size wb w2 := by rw [hw2]; exact below1 wb _
      have B2 := Lib.hid ((B1.out.trans (hbb.mono B1.out.size)).trans (hb2.mono (Nat.le_trans B1.out.size hbb.size)))
      have BX := Lib.hid (heap_later BXb hb2)
      have CX : Hid (w2.heap[gc]? = some (.cells #[.int .i64 10, .int .i64 0, .int .i64 0, .int .i64 i, .int .i64 j, .int .i64 0, .int .i64 0, .string ⟨#[]⟩] 29 (0, 0))) := by show _ = _; rw [hw2, hgc]; exact heap_alloc_new wb _
      have S2 := Lib.hid ((S1.out.later hbb).later hb2)
      have HW2 := Lib.hid hw2; have HGC := Lib.hid hgc
      clear hw2 hgc hb2 hbb BXb
      go_wp2_with fail
      rw [← HW2.out, ← HGC.out]
      clear HW2 HGC
      have HSW0 : ∀ W, Below w2.heap.size w2 W → (fun W => W.cell? ⟨w1.heap.size, 0, none⟩ = some (.slice y1 ns.length y2) ∧ W.cell? ⟨w1.heap.size, 1, none⟩ = some (.int .i64 (l : Nat)) ∧ W.cell? ⟨w1.heap.size, 2, none⟩ = some (.slice (some ⟨b1, o1, none⟩) N p1) ∧ W.cell? ⟨gc, 0, none⟩ = some (.int .i64 10) ∧ W.cell? ⟨gc, 1, none⟩ = some (.int .i64 0) ∧ W.cell? ⟨gc, 2, none⟩ = some (.int .i64 0) ∧ W.cell? ⟨gc, 3, none⟩ = some (.int .i64 i) ∧ W.cell? ⟨gc, 4, none⟩ = some (.int .i64 j) ∧ W.cell? ⟨gc, 5, none⟩ = some (.int .i64 0) ∧ W.cell? ⟨gc, 6, none⟩ = some (.int .i64 0) ∧ W.cell? ⟨gc, 7, none⟩ = some (.string ⟨#[]⟩)) W := fun W hb => ⟨cell_of_heap (o := 0) (heap_later BX.out hb) rfl, cell_of_heap (o := 1) (heap_later BX.out hb) rfl, cell_of_heap (o := 2) (heap_later BX.out hb) rfl, cell_of_heap (o := 0) (heap_later CX.out hb) rfl, cell_of_heap (o := 1) (heap_later CX.out hb) rfl, cell_of_heap (o := 2) (heap_later CX.out hb) rfl, cell_of_heap (o := 3) (heap_later CX.out hb) rfl, cell_of_heap (o := 4) (heap_later CX.out hb) rfl, cell_of_heap (o := 5) (heap_later CX.out hb) rfl, cell_of_heap (o := 6) (heap_later CX.out hb) rfl, cell_of_heap (o := 7) (heap_later CX.out hb) rfl⟩
      refine wp_region_T (fun W => W.cell? ⟨w1.heap.size, 0, none⟩ = some (.slice y1 ns.length y2) ∧ W.cell? ⟨w1.heap.size, 1, none⟩ = some (.int .i64 (l : Nat)) ∧ W.cell? ⟨w1.heap.size, 2, none⟩ = some (.slice (some ⟨b1, o1, none⟩) N p1) ∧ W.cell? ⟨gc, 0, none⟩ = some (.int .i64 10) ∧ W.cell? ⟨gc, 1, none⟩ = some (.int .i64 0) ∧ W.cell? ⟨gc, 2, none⟩ = some (.int .i64 0) ∧ W.cell? ⟨gc, 3, none⟩ = some (.int .i64 i) ∧ W.cell? ⟨gc, 4, none⟩ = some (.int .i64 j) ∧ W.cell? ⟨gc, 5, none⟩ = some (.int .i64 0) ∧ W.cell? ⟨gc, 6, none⟩ = some (.int .i64 0) ∧ W.cell? ⟨gc, 7, none⟩ = some (.string ⟨#[]⟩)) [4, 5, 10, 11, 12, 21, 22, 25] [] run_mixed ?_
      simp only [List.size_toArray, List.length_cons, List.length_nil]
      have hb23 : Below w2.heap.size w2 w2.drew := (Below.refl _ _).drew
      have S3 : Hid (Scr w2.drew (.slice y1 ns.length y2) ns) := S2.out.later hb23
      have B3 := Lib.hid (B2.out.trans (hb23.mono B2.out.size))
      have z23 : w2.drew.heap.size = w2.heap.size := rfl
      generalize w2.drew = w3 at *
      have HSW : Hid (∀ W, Below w3.heap.size w3 W → (fun W => W.cell? ⟨w1.heap.size, 0, none⟩ = some (.slice y1 ns.length y2) ∧ W.cell? ⟨w1.heap.size, 1, none⟩ = some (.int .i64 (l : Nat)) ∧ W.cell? ⟨w1.heap.size, 2, none⟩ = some (.slice (some ⟨b1, o1, none⟩) N p1) ∧ W.cell? ⟨gc, 0, none⟩ = some (.int .i64 10) ∧ W.cell? ⟨gc, 1, none⟩ = some (.int .i64 0) ∧ W.cell? ⟨gc, 2, none⟩ = some (.int .i64 0) ∧ W.cell? ⟨gc, 3, none⟩ = some (.int .i64 i) ∧ W.cell? ⟨gc, 4, none⟩ = some (.int .i64 j) ∧ W.cell? ⟨gc, 5, none⟩ = some (.int .i64 0) ∧ W.cell? ⟨gc, 6, none⟩ = some (.int .i64 0) ∧ W.cell? ⟨gc, 7, none⟩ = some (.string ⟨#[]⟩)) W) := fun W hb => HSW0 W (hb23.trans (hb.mono (by rw [z23]; exact Nat.le_refl _)))
      have HB0 := Lib.hid (Below.refl w3.heap.size w3)
      have HS := HSW.out w3 HB0.out
      clear hb23 z23 HSW0
      refine wpT_takeG (i := 0) (v := ?va0) rfl (by kernel_rfl) (fun _ _ _ h => h) rfl ?ya0 ?ra0
      case ya0 => ((intro wz; go_simp); try with_reducible rfl)
      try simp only [Act.put, List.setIfInBounds_toArray, List.set_cons_zero, List.set_cons_succ]
      refine wpT_loadG (i := 1) (v := ?va1) rfl (by kernel_rfl) (fun _ _ _ h => h) rfl ?ya1 HS ?ra1
      case ya1 => ((intro wz hSw; (try dsimp only at hSw); go_split_ands; go_simp); try with_reducible rfl)
      try simp only [Act.put, List.setIfInBounds_toArray, List.set_cons_zero, List.set_cons_succ]
      refine wpT_loadG (i := 2) (v := ?va2) rfl (by kernel_rfl) (fun _ _ _ h => h) rfl ?ya2 HS ?ra2
      case ya2 => ((intro wz hSw; (try dsimp only at hSw); go_split_ands; go_simp); try with_reducible rfl)
      try simp only [Act.put, List.setIfInBounds_toArray, List.set_cons_zero, List.set_cons_succ]
      refine wpT_loadG (i := 3) (v := ?va3) rfl (by kernel_rfl) (fun _ _ _ h => h) rfl ?ya3 HS ?ra3
      case ya3 => ((intro wz hSw; (try dsimp only at hSw); go_split_ands; go_simp); try with_reducible rfl)
      try simp only [Act.put, List.setIfInBounds_toArray, List.set_cons_zero, List.set_cons_succ]
      refine wpT_loadG (i := 6) (v := ?va6) rfl (by kernel_rfl) (fun _ _ _ h => h) rfl ?ya6 HS ?ra6
      case ya6 => ((intro wz hSw; (try dsimp only at hSw); go_split_ands; go_simp); try with_reducible rfl)
      try simp only [Act.put, List.setIfInBounds_toArray, List.set_cons_zero, List.set_cons_succ]
      refine wpT_takeG (i := 7) (v := ?va7) rfl (by kernel_rfl) (fun _ _ _ h => h) rfl ?ya7 ?ra7
      case ya7 => ((intro wz; go_simp); try with_reducible rfl)
      try simp only [Act.put, List.setIfInBounds_toArray, List.set_cons_zero, List.set_cons_succ]
      refine wpT_takeG (i := 8) (v := ?va8) rfl (by kernel_rfl) (fun _ _ _ h => h) rfl ?ya8 ?ra8
      case ya8 => ((intro wz; go_simp); try with_reducible rfl)
      try simp only [Act.put, List.setIfInBounds_toArray, List.set_cons_zero, List.set_cons_succ]
      refine wpT_takeG (i := 9) (v := ?va9) rfl (by kernel_rfl) (fun _ _ _ h => h) rfl ?ya9 ?ra9
      case ya9 => ((intro wz; go_simp); try with_reducible rfl)
      try simp only [Act.put, List.setIfInBounds_toArray, List.set_cons_zero, List.set_cons_succ]
      refine wpT_two (i := 4) (j := 10) (by kernel_rfl) rfl rfl rfl rfl ?_ ?_
      · go_simp
        have SF1 : Hid (Scr (w3.alloc (.cells #[.int .i64 10, .int .i64 0, .int .i64 0, .int .i64 i, .int .i64 j, .int .i64 0, .int .i64 0, .string ⟨#[]⟩] 29)) (.slice y1 ns.length y2) ns) := S3.out.later (below1 _ _)
        have SF2 : Hid (Scr (w3.alloc (.cells #[.int .i64 10, .int .i64 0, .int .i64 0, .int .i64 i, .int .i64 j, .int .i64 0, .int .i64 0, .string ⟨#[]⟩] 29)) (.slice (some ⟨w3.heap.size, 0, none⟩) 1 1) [cMv 10 i j]) := scr_lit w3 [cMv 10 i j] 29 (w3.heap.size) 1 (by simp) rfl (by simp [cMv]; exact vl_zero_ok)
        refine ⟨cond_keep (by decide) (HSW.out _ (HB0.out.trans ((below1 w3 _).mono HB0.out.size))), ?_⟩
        refine wpT_two (i := 5) (j := 10) (by kernel_rfl) rfl rfl rfl rfl ?_ ?_
        · go_simp
          refine (with_c (ns := ns) (cl := [cMv 10 i j]) (l := l) SF1.out SF2.out ⟨_, _, _, rfl⟩ (by simp; omega)).mono ?_
          rintro r W3 ⟨va4, rfl, sa5, hb6⟩
          have HB7 := Lib.hid ((HB0.out.trans ((below1 w3 _).mono HB0.out.size)).trans (hb6.mono ((HB0.out.trans ((below1 w3 _).mono HB0.out.size))).size))
          have SF8 : Hid (Scr W3 (.slice y1 ns.length y2) ns) := SF1.out.later hb6
          have SF9 := Lib.hid sa5
          clear sa5 hb6
          refine ⟨cond_keep (by decide) (HSW.out _ HB7.out), ?_⟩
          refine wpT_runG (i := 10) (by kernel_rfl) rfl rfl ?_
          go_simp
          have SF10 : Hid (Scr (W3.alloc (.cells #[.int .i64 9, .int .i64 0, .int .i64 0, .int .i64 j, .int .i64 i, .int .i64 0, .int .i64 0, .string ⟨#[]⟩] 29)) (.slice y1 ns.length y2) ns) := SF8.out.later (below1 _ _)
          have SF11 : Hid (Scr (W3.alloc (.cells #[.int .i64 9, .int .i64 0, .int .i64 0, .int .i64 j, .int .i64 i, .int .i64 0, .int .i64 0, .string ⟨#[]⟩] 29)) (va4) (ns ++ [cMv 10 i j].map (onL l))) := SF9.out.later (below1 _ _)
          have SF12 : Hid (Scr (W3.alloc (.cells #[.int .i64 9, .int .i64 0, .int .i64 0, .int .i64 j, .int .i64 i, .int .i64 0, .int .i64 0, .string ⟨#[]⟩] 29)) (.slice (some ⟨W3.heap.size, 0, none⟩) 1 1) [cMv 9 j i]) := scr_lit W3 [cMv 9 j i] 29 (W3.heap.size) 1 (by simp) rfl (by simp [cMv]; exact vl_zero_ok)
          refine ⟨cond_keep (by decide) (HSW.out _ (HB7.out.trans ((below1 W3 _).mono HB7.out.size))), ?_⟩
          refine wpT_runG (i := 11) (by kernel_rfl) rfl rfl ?_
          go_simp
          refine (with_c (ns := ns) (cl := [cMv 9 j i]) (l := l) SF10.out SF12.out ⟨_, _, _, rfl⟩ (by simp; omega)).mono ?_
          rintro r W13 ⟨va14, rfl, sa15, hb16⟩
          have HB17 := Lib.hid ((HB7.out.trans ((below1 W3 _).mono HB7.out.size)).trans (hb16.mono ((HB7.out.trans ((below1 W3 _).mono HB7.out.size))).size))
          have SF18 : Hid (Scr W13 (.slice y1 ns.length y2) ns) := SF10.out.later hb16
          have SF19 : Hid (Scr W13 (va4) (ns ++ [cMv 10 i j].map (onL l))) := SF11.out.later hb16
          have SF20 := Lib.hid sa15
          clear sa15 hb16
          refine ⟨cond_keep (by decide) (HSW.out _ HB17.out), ?_⟩
          refine wpT_runG (i := 12) (by kernel_rfl) rfl rfl ?_
          go_simp
          refine (alike_c SF18.out SF19.out SF20.out A1.out A2.out (HL.out _) (HL.out _) (fun k _ => A3.out k) (by decide) (by omega) (by simp; omega) (by simp; omega)).mono ?_
          rintro r W21 ⟨rfl, hb23⟩
          have HB22 := Lib.hid (HB17.out.trans (hb23.mono HB17.out.size))
          have SF24 : Hid (Scr W21 (.slice y1 ns.length y2) ns) := SF18.out.later hb23
          refine ⟨cond_keep (by decide) (HSW.out _ HB22.out), ?_⟩
          clear hb23
          refine wpT_takeG (i := 13) (v := ?vm1_13) rfl (by kernel_rfl) (fun _ _ _ h => h) rfl ?ym1_13 ?rm1_13
          case ym1_13 => ((intro wz; go_simp); try with_reducible rfl)
          try simp only [Act.put, List.setIfInBounds_toArray, List.set_cons_zero, List.set_cons_succ]
          refine wpT_takeG (i := 14) (v := ?vm1_14) rfl (by kernel_rfl) (fun _ _ _ h => h) rfl ?ym1_14 ?rm1_14
          case ym1_14 => ((intro wz; go_simp); try with_reducible rfl)
          try simp only [Act.put, List.setIfInBounds_toArray, List.set_cons_zero, List.set_cons_succ]
          refine wpT_loadG (i := 15) (v := ?vm1_15) rfl (by kernel_rfl) (fun _ _ _ h => h) rfl ?ym1_15 (HSW.out _ HB22.out) ?rm1_15
          case ym1_15 => ((intro wz hSw; (try dsimp only at hSw); go_split_ands; go_simp); try with_reducible rfl)
          try simp only [Act.put, List.setIfInBounds_toArray, List.set_cons_zero, List.set_cons_succ]
          refine wpT_loadG (i := 16) (v := ?vm1_16) rfl (by kernel_rfl) (fun _ _ _ h => h) rfl ?ym1_16 (HSW.out _ HB22.out) ?rm1_16
          case ym1_16 => ((intro wz hSw; (try dsimp only at hSw); go_split_ands; go_simp); try with_reducible rfl)
          try simp only [Act.put, List.setIfInBounds_toArray, List.set_cons_zero, List.set_cons_succ]
          refine wpT_loadG (i := 17) (v := ?vm1_17) rfl (by kernel_rfl) (fun _ _ _ h => h) rfl ?ym1_17 (HSW.out _ HB22.out) ?rm1_17
          case ym1_17 => ((intro wz hSw; (try dsimp only at hSw); go_split_ands; go_simp); try with_reducible rfl)
          try simp only [Act.put, List.setIfInBounds_toArray, List.set_cons_zero, List.set_cons_succ]
          refine wpT_takeG (i := 18) (v := ?vm1_18) rfl (by kernel_rfl) (fun _ _ _ h => h) rfl ?ym1_18 ?rm1_18
          case ym1_18 => ((intro wz; go_simp); try with_reducible rfl)
          try simp only [Act.put, List.setIfInBounds_toArray, List.set_cons_zero, List.set_cons_succ]
          refine wpT_takeG (i := 19) (v := ?vm1_19) rfl (by kernel_rfl) (fun _ _ _ h => h) rfl ?ym1_19 ?rm1_19
          case ym1_19 => ((intro wz; go_simp); try with_reducible rfl)
          try simp only [Act.put, List.setIfInBounds_toArray, List.set_cons_zero, List.set_cons_succ]
          refine wpT_takeG (i := 20) (v := ?vm1_20) rfl (by kernel_rfl) (fun _ _ _ h => h) rfl ?ym1_20 ?rm1_20
          case ym1_20 => ((intro wz; go_simp); try with_reducible rfl)
          try simp only [Act.put, List.setIfInBounds_toArray, List.set_cons_zero, List.set_cons_succ]
          refine wpT_takeG (i := 23) (v := ?vm1_23) rfl (by kernel_rfl) (fun _ _ _ h => h) rfl ?ym1_23 ?rm1_23
          case ym1_23 => ((intro wz; go_simp); try with_reducible rfl)
          try simp only [Act.put, List.setIfInBounds_toArray, List.set_cons_zero, List.set_cons_succ]
          refine wpT_loadG (i := 24) (v := ?vm1_24) rfl (by kernel_rfl) (fun _ _ _ h => h) rfl ?ym1_24 (HSW.out _ HB22.out) ?rm1_24
          case ym1_24 => ((intro wz hSw; (try dsimp only at hSw); go_split_ands; go_simp); try with_reducible rfl)
          try simp only [Act.put, List.setIfInBounds_toArray, List.set_cons_zero, List.set_cons_succ]
          refine wpT_runG (i := 21) (by kernel_rfl) rfl rfl ?_
          go_simp
          have SF25 : Hid (Scr (W21.alloc (.cells #[.int .i64 10, .int .i64 0, .int .i64 0, .int .i64 i, .int .i64 j, .int .i64 0, .int .i64 0, .string ⟨#[]⟩, .int .i64 10, .int .i64 0, .int .i64 0, .int .i64 j, .int .i64 i, .int .i64 0, .int .i64 0, .string ⟨#[]⟩] 29)) (.slice y1 ns.length y2) ns) := SF24.out.later (below1 _ _)
          have SF26 : Hid (Scr (W21.alloc (.cells #[.int .i64 10, .int .i64 0, .int .i64 0, .int .i64 i, .int .i64 j, .int .i64 0, .int .i64 0, .string ⟨#[]⟩, .int .i64 10, .int .i64 0, .int .i64 0, .int .i64 j, .int .i64 i, .int .i64 0, .int .i64 0, .string ⟨#[]⟩] 29)) (.slice (some ⟨W21.heap.size, 0, none⟩) 2 2) [cMv 10 i j, cMv 10 j i]) := scr_lit W21 [cMv 10 i j, cMv 10 j i] 29 (W21.heap.size) 2 (by simp) rfl (by simp [cMv]; exact vl_zero_ok)
          refine ⟨cond_keep (by decide) (HSW.out _ (HB22.out.trans ((below1 W21 _).mono HB22.out.size))), ?_⟩
          refine wpT_runG (i := 22) (by kernel_rfl) rfl rfl ?_
          go_simp
          refine (with_c (ns := ns) (cl := [cMv 10 i j, cMv 10 j i]) (l := l) SF25.out SF26.out ⟨_, _, _, rfl⟩ (by simp; omega)).mono ?_
          rintro r W27 ⟨va28, rfl, sa29, hb30⟩
          have HB31 := Lib.hid ((HB22.out.trans ((below1 W21 _).mono HB22.out.size)).trans (hb30.mono ((HB22.out.trans ((below1 W21 _).mono HB22.out.size))).size))
          have SF32 : Hid (Scr W27 (.slice y1 ns.length y2) ns) := SF25.out.later hb30
          have SF33 := Lib.hid sa29
          clear sa29 hb30
          refine ⟨cond_keep (by decide) (HSW.out _ HB31.out), ?_⟩
          refine wpT_runG (i := 25) (by kernel_rfl) rfl rfl ?_
          go_simp
          refine (alike_c SF32.out SF33.out SF32.out D1.out SC.out.ok (HL.out _) (fun l hl => mem_lists l hl) (fun k _ => D3.out k) (by decide) (by omega) (by simp; omega) (by omega)).mono ?_
          rintro r wf ⟨rfl, hbf⟩
          refine ⟨cond_keep (by decide) (HSW.out _ (HB31.out.trans (hbf.mono HB31.out.size))), ?_⟩
          have BF := Lib.hid (B3.out.trans ((HB31.out.trans (hbf.mono HB31.out.size)).mono B3.out.size))
          clear hbf
          refine wpT_takeG (i := 26) (v := ?vz1_26) rfl (by kernel_rfl) (fun _ _ _ h => h) rfl ?yz1_26 ?rz1_26
          case yz1_26 => ((intro wz; go_simp); try with_reducible rfl)
          try simp only [Act.put, List.setIfInBounds_toArray, List.set_cons_zero, List.set_cons_succ]
          refine wpT_takeG (i := 27) (v := ?vz1_27) rfl (by kernel_rfl) (fun _ _ _ h => h) rfl ?yz1_27 ?rz1_27
          case yz1_27 => ((intro wz; go_simp); try with_reducible rfl)
          try simp only [Act.put, List.setIfInBounds_toArray, List.set_cons_zero, List.set_cons_succ]
          refine wpT_done (by kernel_rfl) ?_ _
          go_wp2
          go_ret
          exact ⟨rfl, BF.out⟩
        · go_simp
          have SF34 : Hid (Scr ((w3.alloc (.cells #[.int .i64 10, .int .i64 0, .int .i64 0, .int .i64 i, .int .i64 j, .int .i64 0, .int .i64 0, .string ⟨#[]⟩] 29)).alloc (.cells #[.int .i64 9, .int .i64 0, .int .i64 0, .int .i64 j, .int .i64 i, .int .i64 0, .int .i64 0, .string ⟨#[]⟩] 29)) (.slice y1 ns.length y2) ns) := SF1.out.later (below1 _ _)
          have SF35 : Hid (Scr ((w3.alloc (.cells #[.int .i64 10, .int .i64 0, .int .i64 0, .int .i64 i, .int .i64 j, .int .i64 0, .int .i64 0, .string ⟨#[]⟩] 29)).alloc (.cells #[.int .i64 9, .int .i64 0, .int .i64 0, .int .i64 j, .int .i64 i, .int .i64 0, .int .i64 0, .string ⟨#[]⟩] 29)) (.slice (some ⟨w3.heap.size, 0, none⟩) 1 1) [cMv 10 i j]) := SF2.out.later (below1 _ _)
          have SF36 : Hid (Scr ((w3.alloc (.cells #[.int .i64 10, .int .i64 0, .int .i64 0, .int .i64 i, .int .i64 j, .int .i64 0, .int .i64 0, .string ⟨#[]⟩] 29)).alloc (.cells #[.int .i64 9, .int .i64 0, .int .i64 0, .int .i64 j, .int .i64 i, .int .i64 0, .int .i64 0, .string ⟨#[]⟩] 29)) (.slice (some ⟨w3.heap.size + 1, 0, none⟩) 1 1) [cMv 9 j i]) := scr_lit (w3.alloc (.cells #[.int .i64 10, .int .i64 0, .int .i64 0, .int .i64 i, .int .i64 j, .int .i64 0, .int .i64 0, .string ⟨#[]⟩] 29)) [cMv 9 j i] 29 (w3.heap.size + 1) 1 (by simp) rfl (by simp [cMv]; exact vl_zero_ok)
          refine ⟨cond_keep (by decide) (HSW.out _ (HB0.out.trans ((below2 w3 _ _).mono HB0.out.size))), ?_⟩
          refine wpT_runG (i := 5) (by kernel_rfl) rfl rfl ?_
          go_simp
          refine (with_c (ns := ns) (cl := [cMv 10 i j]) (l := l) SF34.out SF35.out ⟨_, _, _, rfl⟩ (by simp; omega)).mono ?_
          rintro r W37 ⟨va38, rfl, sa39, hb40⟩
          have HB41 := Lib.hid ((HB0.out.trans ((below2 w3 _ _).mono HB0.out.size)).trans (hb40.mono ((HB0.out.trans ((below2 w3 _ _).mono HB0.out.size))).size))
          have SF42 : Hid (Scr W37 (.slice y1 ns.length y2) ns) := SF34.out.later hb40
          have SF43 : Hid (Scr W37 (.slice (some ⟨w3.heap.size + 1, 0, none⟩) 1 1) [cMv 9 j i]) := SF36.out.later hb40
          have SF44 := Lib.hid sa39
          clear sa39 hb40
          refine ⟨cond_keep (by decide) (HSW.out _ HB41.out), ?_⟩
          refine wpT_runG (i := 11) (by kernel_rfl) rfl rfl ?_
          go_simp
          refine (with_c (ns := ns) (cl := [cMv 9 j i]) (l := l) SF42.out SF43.out ⟨_, _, _, rfl⟩ (by simp; omega)).mono ?_
          rintro r W45 ⟨va46, rfl, sa47, hb48⟩
          have HB49 := Lib.hid ((HB41.out.trans ((Below.refl _ W37).mono HB41.out.size)).trans (hb48.mono ((HB41.out.trans ((Below.refl _ W37).mono HB41.out.size))).size))
          have SF50 : Hid (Scr W45 (.slice y1 ns.length y2) ns) := SF42.out.later hb48
          have SF51 : Hid (Scr W45 (va38) (ns ++ [cMv 10 i j].map (onL l))) := SF44.out.later hb48
          have SF52 := Lib.hid sa47
          clear sa47 hb48
          refine ⟨cond_keep (by decide) (HSW.out _ HB49.out), ?_⟩
          refine wpT_runG (i := 12) (by kernel_rfl) rfl rfl ?_
          go_simp
          refine (alike_c SF50.out SF51.out SF52.out A1.out A2.out (HL.out _) (HL.out _) (fun k _ => A3.out k) (by decide) (by omega) (by simp; omega) (by simp; omega)).mono ?_
          rintro r W53 ⟨rfl, hb55⟩
          have HB54 := Lib.hid (HB49.out.trans (hb55.mono HB49.out.size))
          have SF56 : Hid (Scr W53 (.slice y1 ns.length y2) ns) := SF50.out.later hb55
          refine ⟨cond_keep (by decide) (HSW.out _ HB54.out), ?_⟩
          clear hb55
          refine wpT_takeG (i := 13) (v := ?vm2_13) rfl (by kernel_rfl) (fun _ _ _ h => h) rfl ?ym2_13 ?rm2_13
          case ym2_13 => ((intro wz; go_simp); try with_reducible rfl)
          try simp only [Act.put, List.setIfInBounds_toArray, List.set_cons_zero, List.set_cons_succ]
          refine wpT_takeG (i := 14) (v := ?vm2_14) rfl (by kernel_rfl) (fun _ _ _ h => h) rfl ?ym2_14 ?rm2_14
          case ym2_14 => ((intro wz; go_simp); try with_reducible rfl)
          try simp only [Act.put, List.setIfInBounds_toArray, List.set_cons_zero, List.set_cons_succ]
          refine wpT_loadG (i := 15) (v := ?vm2_15) rfl (by kernel_rfl) (fun _ _ _ h => h) rfl ?ym2_15 (HSW.out _ HB54.out) ?rm2_15
          case ym2_15 => ((intro wz hSw; (try dsimp only at hSw); go_split_ands; go_simp); try with_reducible rfl)
          try simp only [Act.put, List.setIfInBounds_toArray, List.set_cons_zero, List.set_cons_succ]
          refine wpT_loadG (i := 16) (v := ?vm2_16) rfl (by kernel_rfl) (fun _ _ _ h => h) rfl ?ym2_16 (HSW.out _ HB54.out) ?rm2_16
          case ym2_16 => ((intro wz hSw; (try dsimp only at hSw); go_split_ands; go_simp); try with_reducible rfl)
          try simp only [Act.put, List.setIfInBounds_toArray, List.set_cons_zero, List.set_cons_succ]
          refine wpT_loadG (i := 17) (v := ?vm2_17) rfl (by kernel_rfl) (fun _ _ _ h => h) rfl ?ym2_17 (HSW.out _ HB54.out) ?rm2_17
          case ym2_17 => ((intro wz hSw; (try dsimp only at hSw); go_split_ands; go_simp); try with_reducible rfl)
          try simp only [Act.put, List.setIfInBounds_toArray, List.set_cons_zero, List.set_cons_succ]
          refine wpT_takeG (i := 18) (v := ?vm2_18) rfl (by kernel_rfl) (fun _ _ _ h => h) rfl ?ym2_18 ?rm2_18
          case ym2_18 => ((intro wz; go_simp); try with_reducible rfl)
          try simp only [Act.put, List.setIfInBounds_toArray, List.set_cons_zero, List.set_cons_succ]
          refine wpT_takeG (i := 19) (v := ?vm2_19) rfl (by kernel_rfl) (fun _ _ _ h => h) rfl ?ym2_19 ?rm2_19
          case ym2_19 => ((intro wz; go_simp); try with_reducible rfl)
          try simp only [Act.put, List.setIfInBounds_toArray, List.set_cons_zero, List.set_cons_succ]
          refine wpT_takeG (i := 20) (v := ?vm2_20) rfl (by kernel_rfl) (fun _ _ _ h => h) rfl ?ym2_20 ?rm2_20
          case ym2_20 => ((intro wz; go_simp); try with_reducible rfl)
          try simp only [Act.put, List.setIfInBounds_toArray, List.set_cons_zero, List.set_cons_succ]
          refine wpT_takeG (i := 23) (v := ?vm2_23) rfl (by kernel_rfl) (fun _ _ _ h => h) rfl ?ym2_23 ?rm2_23
          case ym2_23 => ((intro wz; go_simp); try with_reducible rfl)
          try simp only [Act.put, List.setIfInBounds_toArray, List.set_cons_zero, List.set_cons_succ]
          refine wpT_loadG (i := 24) (v := ?vm2_24) rfl (by kernel_rfl) (fun _ _ _ h => h) rfl ?ym2_24 (HSW.out _ HB54.out) ?rm2_24
          case ym2_24 => ((intro wz hSw; (try dsimp only at hSw); go_split_ands; go_simp); try with_reducible rfl)
          try simp only [Act.put, List.setIfInBounds_toArray, List.set_cons_zero, List.set_cons_succ]
          refine wpT_runG (i := 21) (by kernel_rfl) rfl rfl ?_
          go_simp
          have SF57 : Hid (Scr (W53.alloc (.cells #[.int .i64 10, .int .i64 0, .int .i64 0, .int .i64 i, .int .i64 j, .int .i64 0, .int .i64 0, .string ⟨#[]⟩, .int .i64 10, .int .i64 0, .int .i64 0, .int .i64 j, .int .i64 i, .int .i64 0, .int .i64 0, .string ⟨#[]⟩] 29)) (.slice y1 ns.length y2) ns) := SF56.out.later (below1 _ _)
          have SF58 : Hid (Scr (W53.alloc (.cells #[.int .i64 10, .int .i64 0, .int .i64 0, .int .i64 i, .int .i64 j, .int .i64 0, .int .i64 0, .string ⟨#[]⟩, .int .i64 10, .int .i64 0, .int .i64 0, .int .i64 j, .int .i64 i, .int .i64 0, .int .i64 0, .string ⟨#[]⟩] 29)) (.slice (some ⟨W53.heap.size, 0, none⟩) 2 2) [cMv 10 i j, cMv 10 j i]) := scr_lit W53 [cMv 10 i j, cMv 10 j i] 29 (W53.heap.size) 2 (by simp) rfl (by simp [cMv]; exact vl_zero_ok)
          refine ⟨cond_keep (by decide) (HSW.out _ (HB54.out.trans ((below1 W53 _).mono HB54.out.size))), ?_⟩
          refine wpT_runG (i := 22) (by kernel_rfl) rfl rfl ?_
          go_simp
          refine (with_c (ns := ns) (cl := [cMv 10 i j, cMv 10 j i]) (l := l) SF57.out SF58.out ⟨_, _, _, rfl⟩ (by simp; omega)).mono ?_
          rintro r W59 ⟨va60, rfl, sa61, hb62⟩
          have HB63 := Lib.hid ((HB54.out.trans ((below1 W53 _).mono HB54.out.size)).trans (hb62.mono ((HB54.out.trans ((below1 W53 _).mono HB54.out.size))).size))
          have SF64 : Hid (Scr W59 (.slice y1 ns.length y2) ns) := SF57.out.later hb62
          have SF65 := Lib.hid sa61
          clear sa61 hb62
          refine ⟨cond_keep (by decide) (HSW.out _ HB63.out), ?_⟩
          refine wpT_runG (i := 25) (by kernel_rfl) rfl rfl ?_
          go_simp
          refine (alike_c SF64.out SF65.out SF64.out D1.out SC.out.ok (HL.out _) (fun l hl => mem_lists l hl) (fun k _ => D3.out k) (by decide) (by omega) (by simp; omega) (by omega)).mono ?_
          rintro r wf ⟨rfl, hbf⟩
          refine ⟨cond_keep (by decide) (HSW.out _ (HB63.out.trans (hbf.mono HB63.out.size))), ?_⟩
          have BF := Lib.hid (B3.out.trans ((HB63.out.trans (hbf.mono HB63.out.size)).mono B3.out.size))
          clear hbf
          refine wpT_takeG (i := 26) (v := ?vz2_26) rfl (by kernel_rfl) (fun _ _ _ h => h) rfl ?yz2_26 ?rz2_26
          case yz2_26 => ((intro wz; go_simp); try with_reducible rfl)
          try simp only [Act.put, List.setIfInBounds_toArray, List.set_cons_zero, List.set_cons_succ]
          refine wpT_takeG (i := 27) (v := ?vz2_27) rfl (by kernel_rfl) (fun _ _ _ h => h) rfl ?yz2_27 ?rz2_27
          case yz2_27 => ((intro wz; go_simp); try with_reducible rfl)
          try simp only [Act.put, List.setIfInBounds_toArray, List.set_cons_zero, List.set_cons_succ]
          refine wpT_done (by kernel_rfl) ?_ _
          go_wp2
          go_ret
          exact ⟨rfl, BF.out⟩
      · go_simp
        have SF66 : Hid (Scr (w3.alloc (.cells #[.int .i64 9, .int .i64 0, .int .i64 0, .int .i64 j, .int .i64 i, .int .i64 0, .int .i64 0, .string ⟨#[]⟩] 29)) (.slice y1 ns.length y2) ns) := S3.out.later (below1 _ _)
        have SF67 : Hid (Scr (w3.alloc (.cells #[.int .i64 9, .int .i64 0, .int .i64 0, .int .i64 j, .int .i64 i, .int .i64 0, .int .i64 0, .string ⟨#[]⟩] 29)) (.slice (some ⟨w3.heap.size, 0, none⟩) 1 1) [cMv 9 j i]) := scr_lit w3 [cMv 9 j i] 29 (w3.heap.size) 1 (by simp) rfl (by simp [cMv]; exact vl_zero_ok)
        refine ⟨cond_keep (by decide) (HSW.out _ (HB0.out.trans ((below1 w3 _).mono HB0.out.size))), ?_⟩
        refine wpT_runG (i := 4) (by kernel_rfl) rfl rfl ?_
        go_simp
        have SF68 : Hid (Scr ((w3.alloc (.cells #[.int .i64 9, .int .i64 0, .int .i64 0, .int .i64 j, .int .i64 i, .int .i64 0, .int .i64 0, .string ⟨#[]⟩] 29)).alloc (.cells #[.int .i64 10, .int .i64 0, .int .i64 0, .int .i64 i, .int .i64 j, .int .i64 0, .int .i64 0, .string ⟨#[]⟩] 29)) (.slice y1 ns.length y2) ns) := SF66.out.later (below1 _ _)
        have SF69 : Hid (Scr ((w3.alloc (.cells #[.int .i64 9, .int .i64 0, .int .i64 0, .int .i64 j, .int .i64 i, .int .i64 0, .int .i64 0, .string ⟨#[]⟩] 29)).alloc (.cells #[.int .i64 10, .int .i64 0, .int .i64 0, .int .i64 i, .int .i64 j, .int .i64 0, .int .i64 0, .string ⟨#[]⟩] 29)) (.slice (some ⟨w3.heap.size, 0, none⟩) 1 1) [cMv 9 j i]) := SF67.out.later (below1 _ _)
        have SF70 : Hid (Scr ((w3.alloc (.cells #[.int .i64 9, .int .i64 0, .int .i64 0, .int .i64 j, .int .i64 i, .int .i64 0, .int .i64 0, .string ⟨#[]⟩] 29)).alloc (.cells #[.int .i64 10, .int .i64 0, .int .i64 0, .int .i64 i, .int .i64 j, .int .i64 0, .int .i64 0, .string ⟨#[]⟩] 29)) (.slice (some ⟨w3.heap.size + 1, 0, none⟩) 1 1) [cMv 10 i j]) := scr_lit (w3.alloc (.cells #[.int .i64 9, .int .i64 0, .int .i64 0, .int .i64 j, .int .i64 i, .int .i64 0, .int .i64 0, .string ⟨#[]⟩] 29)) [cMv 10 i j] 29 (w3.heap.size + 1) 1 (by simp) rfl (by simp [cMv]; exact vl_zero_ok)
        refine ⟨cond_keep (by decide) (HSW.out _ (HB0.out.trans ((below2 w3 _ _).mono HB0.out.size))), ?_⟩
        refine wpT_runG (i := 5) (by kernel_rfl) rfl rfl ?_
        go_simp
        refine (with_c (ns := ns) (cl := [cMv 10 i j]) (l := l) SF68.out SF70.out ⟨_, _, _, rfl⟩ (by simp; omega)).mono ?_
        rintro r W71 ⟨va72, rfl, sa73, hb74⟩
        have HB75 := Lib.hid ((HB0.out.trans ((below2 w3 _ _).mono HB0.out.size)).trans (hb74.mono ((HB0.out.trans ((below2 w3 _ _).mono HB0.out.size))).size))
        have SF76 : Hid (Scr W71 (.slice y1 ns.length y2) ns) := SF68.out.later hb74
        have SF77 : Hid (Scr W71 (.slice (some ⟨w3.heap.size, 0, none⟩) 1 1) [cMv 9 j i]) := SF69.out.later hb74
        have SF78 := Lib.hid sa73
        clear sa73 hb74
        refine ⟨cond_keep (by decide) (HSW.out _ HB75.out), ?_⟩
        refine wpT_runG (i := 11) (by kernel_rfl) rfl rfl ?_
        go_simp
        refine (with_c (ns := ns) (cl := [cMv 9 j i]) (l := l) SF76.out SF77.out ⟨_, _, _, rfl⟩ (by simp; omega)).mono ?_
        rintro r W79 ⟨va80, rfl, sa81, hb82⟩
        have HB83 := Lib.hid ((HB75.out.trans ((Below.refl _ W71).mono HB75.out.size)).trans (hb82.mono ((HB75.out.trans ((Below.refl _ W71).mono HB75.out.size))).size))
        have SF84 : Hid (Scr W79 (.slice y1 ns.length y2) ns) := SF76.out.later hb82
        have SF85 : Hid (Scr W79 (va72) (ns ++ [cMv 10 i j].map (onL l))) := SF78.out.later hb82
        have SF86 := Lib.hid sa81
        clear sa81 hb82
        refine ⟨cond_keep (by decide) (HSW.out _ HB83.out), ?_⟩
        refine wpT_runG (i := 12) (by kernel_rfl) rfl rfl ?_
        go_simp
        refine (alike_c SF84.out SF85.out SF86.out A1.out A2.out (HL.out _) (HL.out _) (fun k _ => A3.out k) (by decide) (by omega) (by simp; omega) (by simp; omega)).mono ?_
        rintro r W87 ⟨rfl, hb89⟩
        have HB88 := Lib.hid (HB83.out.trans (hb89.mono HB83.out.size))
        have SF90 : Hid (Scr W87 (.slice y1 ns.length y2) ns) := SF84.out.later hb89
        refine ⟨cond_keep (by decide) (HSW.out _ HB88.out), ?_⟩
        clear hb89
        refine wpT_takeG (i := 13) (v := ?vm3_13) rfl (by kernel_rfl) (fun _ _ _ h => h) rfl ?ym3_13 ?rm3_13
        case ym3_13 => ((intro wz; go_simp); try with_reducible rfl)
        try simp only [Act.put, List.setIfInBounds_toArray, List.set_cons_zero, List.set_cons_succ]
        refine wpT_takeG (i := 14) (v := ?vm3_14) rfl (by kernel_rfl) (fun _ _ _ h => h) rfl ?ym3_14 ?rm3_14
        case ym3_14 => ((intro wz; go_simp); try with_reducible rfl)
        try simp only [Act.put, List.setIfInBounds_toArray, List.set_cons_zero, List.set_cons_succ]
        refine wpT_loadG (i := 15) (v := ?vm3_15) rfl (by kernel_rfl) (fun _ _ _ h => h) rfl ?ym3_15 (HSW.out _ HB88.out) ?rm3_15
        case ym3_15 => ((intro wz hSw; (try dsimp only at hSw); go_split_ands; go_simp); try with_reducible rfl)
        try simp only [Act.put, List.setIfInBounds_toArray, List.set_cons_zero, List.set_cons_succ]
        refine wpT_loadG (i := 16) (v := ?vm3_16) rfl (by kernel_rfl) (fun _ _ _ h => h) rfl ?ym3_16 (HSW.out _ HB88.out) ?rm3_16
        case ym3_16 => ((intro wz hSw; (try dsimp only at hSw); go_split_ands; go_simp); try with_reducible rfl)
        try simp only [Act.put, List.setIfInBounds_toArray, List.set_cons_zero, List.set_cons_succ]
        refine wpT_loadG (i := 17) (v := ?vm3_17) rfl (by kernel_rfl) (fun _ _ _ h => h) rfl ?ym3_17 (HSW.out _ HB88.out) ?rm3_17
        case ym3_17 => ((intro wz hSw; (try dsimp only at hSw); go_split_ands; go_simp); try with_reducible rfl)
        try simp only [Act.put, List.setIfInBounds_toArray, List.set_cons_zero, List.set_cons_succ]
        refine wpT_takeG (i := 18) (v := ?vm3_18) rfl (by kernel_rfl) (fun _ _ _ h => h) rfl ?ym3_18 ?rm3_18
        case ym3_18 => ((intro wz; go_simp); try with_reducible rfl)
        try simp only [Act.put, List.setIfInBounds_toArray, List.set_cons_zero, List.set_cons_succ]
        refine wpT_takeG (i := 19) (v := ?vm3_19) rfl (by kernel_rfl) (fun _ _ _ h => h) rfl ?ym3_19 ?rm3_19
        case ym3_19 => ((intro wz; go_simp); try with_reducible rfl)
        try simp only [Act.put, List.setIfInBounds_toArray, List.set_cons_zero, List.set_cons_succ]
        refine wpT_takeG (i := 20) (v := ?vm3_20) rfl (by kernel_rfl) (fun _ _ _ h => h) rfl ?ym3_20 ?rm3_20
        case ym3_20 => ((intro wz; go_simp); try with_reducible rfl)
        try simp only [Act.put, List.setIfInBounds_toArray, List.set_cons_zero, List.set_cons_succ]
        refine wpT_takeG (i := 23) (v := ?vm3_23) rfl (by kernel_rfl) (fun _ _ _ h => h) rfl ?ym3_23 ?rm3_23
        case ym3_23 => ((intro wz; go_simp); try with_reducible rfl)
        try simp only [Act.put, List.setIfInBounds_toArray, List.set_cons_zero, List.set_cons_succ]
        refine wpT_loadG (i := 24) (v := ?vm3_24) rfl (by kernel_rfl) (fun _ _ _ h => h) rfl ?ym3_24 (HSW.out _ HB88.out) ?rm3_24
        case ym3_24 => ((intro wz hSw; (try dsimp only at hSw); go_split_ands; go_simp); try with_reducible rfl)
        try simp only [Act.put, List.setIfInBounds_toArray, List.set_cons_zero, List.set_cons_succ]
        refine wpT_runG (i := 21) (by kernel_rfl) rfl rfl ?_
        go_simp
        have SF91 : Hid (Scr (W87.alloc (.cells #[.int .i64 10, .int .i64 0, .int .i64 0, .int .i64 i, .int .i64 j, .int .i64 0, .int .i64 0, .string ⟨#[]⟩, .int .i64 10, .int .i64 0, .int .i64 0, .int .i64 j, .int .i64 i, .int .i64 0, .int .i64 0, .string ⟨#[]⟩] 29)) (.slice y1 ns.length y2) ns) := SF90.out.later (below1 _ _)
        have SF92 : Hid (Scr (W87.alloc (.cells #[.int .i64 10, .int .i64 0, .int .i64 0, .int .i64 i, .int .i64 j, .int .i64 0, .int .i64 0, .string ⟨#[]⟩, .int .i64 10, .int .i64 0, .int .i64 0, .int .i64 j, .int .i64 i, .int .i64 0, .int .i64 0, .string ⟨#[]⟩] 29)) (.slice (some ⟨W87.heap.size, 0, none⟩) 2 2) [cMv 10 i j, cMv 10 j i]) := scr_lit W87 [cMv 10 i j, cMv 10 j i] 29 (W87.heap.size) 2 (by simp) rfl (by simp [cMv]; exact vl_zero_ok)
        refine ⟨cond_keep (by decide) (HSW.out _ (HB88.out.trans ((below1 W87 _).mono HB88.out.size))), ?_⟩
        refine wpT_runG (i := 22) (by kernel_rfl) rfl rfl ?_
        go_simp
        refine (with_c (ns := ns) (cl := [cMv 10 i j, cMv 10 j i]) (l := l) SF91.out SF92.out ⟨_, _, _, rfl⟩ (by simp; omega)).mono ?_
        rintro r W93 ⟨va94, rfl, sa95, hb96⟩
        have HB97 := Lib.hid ((HB88.out.trans ((below1 W87 _).mono HB88.out.size)).trans (hb96.mono ((HB88.out.trans ((below1 W87 _).mono HB88.out.size))).size))
        have SF98 : Hid (Scr W93 (.slice y1 ns.length y2) ns) := SF91.out.later hb96
        have SF99 := Lib.hid sa95
        clear sa95 hb96
        refine ⟨cond_keep (by decide) (HSW.out _ HB97.out), ?_⟩
        refine wpT_runG (i := 25) (by kernel_rfl) rfl rfl ?_
        go_simp
        refine (alike_c SF98.out SF99.out SF98.out D1.out SC.out.ok (HL.out _) (fun l hl => mem_lists l hl) (fun k _ => D3.out k) (by decide) (by omega) (by simp; omega) (by omega)).mono ?_
        rintro r wf ⟨rfl, hbf⟩
        refine ⟨cond_keep (by decide) (HSW.out _ (HB97.out.trans (hbf.mono HB97.out.size))), ?_⟩
        have BF := Lib.hid (B3.out.trans ((HB97.out.trans (hbf.mono HB97.out.size)).mono B3.out.size))
        clear hbf
        refine wpT_takeG (i := 26) (v := ?vz3_26) rfl (by kernel_rfl) (fun _ _ _ h => h) rfl ?yz3_26 ?rz3_26
        case yz3_26 => ((intro wz; go_simp); try with_reducible rfl)
        try simp only [Act.put, List.setIfInBounds_toArray, List.set_cons_zero, List.set_cons_succ]
        refine wpT_takeG (i := 27) (v := ?vz3_27) rfl (by kernel_rfl) (fun _ _ _ h => h) rfl ?yz3_27 ?rz3_27
        case yz3_27 => ((intro wz; go_simp); try with_reducible rfl)
        try simp only [Act.put, List.setIfInBounds_toArray, List.set_cons_zero, List.set_cons_succ]
        refine wpT_done (by kernel_rfl) ?_ _
        go_wp2
        go_ret
        exact ⟨rfl, BF.out⟩
  · simp only [scene0]
    go_wp2
    go_ret
    exact ⟨rfl, B1.out.trans ((below1 w1 _).mono B1.out.size)⟩
end Bead
end Go.Proofs.Ytdmichkekipdpaa
