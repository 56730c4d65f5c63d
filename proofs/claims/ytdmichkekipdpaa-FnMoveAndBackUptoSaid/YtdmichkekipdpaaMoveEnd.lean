/- FnMoveToEndIsMoveBesideEnd returns true. -/
import Derived.Test.YtdmichkekipdpaaScene
import Derived.Test.YtdmichkekipdpaaLast4
set_option linter.all false
namespace Go.Proofs.Ytdmichkekipdpaa
open Go.RowKit
namespace Bead
set_option maxRecDepth 100000

/-- Two calls that leave a list's elements in one order look alike. -/
theorem mvs_look {ns : List Cl} {l : Nat} (h : Scened ns l) {a b : Cl} {s : List Nat} (pa : Permitted 500 (runFrom Md.init ns) a) (pb : Permitted 500 (runFrom Md.init ns) b) (hs : ∀ e ∈ s, e ∈ (runFrom Md.init ns).seq l)
    (sa : ((runFrom Md.init ns).step a).1 = (runFrom Md.init ns).grow.setSeq l s) (sb : ((runFrom Md.init ns).step b).1 = (runFrom Md.init ns).grow.setSeq l s) :
    okFrom 500 Md.init (ns ++ [a]) = true ∧ okFrom 500 Md.init (ns ++ [b]) = true ∧ ∀ k, Look k (runFrom Md.init (ns ++ [a])) (runFrom Md.init (ns ++ [b])) := by
  refine ⟨?_, ?_, fun k => ?_⟩
  · rw [okFrom_append, h.ok]
    simp only [okFrom, Bool.and_true, Bool.true_and]
    exact (permitted_iff _ _ _).2 pa
  · rw [okFrom_append, h.ok]
    simp only [okFrom, Bool.and_true, Bool.true_and]
    exact (permitted_iff _ _ _).2 pb
  · rw [runFrom_append, runFrom_append]
    show Look k ((runFrom Md.init ns).step a).1 ((runFrom Md.init ns).step b).1
    rw [sa, sb]
    refine ⟨rfl, fun _ _ => rfl, fun e he => ?_⟩
    have hm : ∃ k', e ∈ (runFrom Md.init ns).seq k' := by
      by_cases q : k = l
      · subst q
        refine ⟨k, hs e ?_⟩
        have : upd (runFrom Md.init ns).seq k s k = s := upd_same _ _ _
        rw [← this]; exact he
      · refine ⟨k, ?_⟩
        have : upd (runFrom Md.init ns).seq l s k = (runFrom Md.init ns).seq k := upd_other _ _ q
        rw [← this]; exact he
    obtain ⟨k', hk'⟩ := hm
    obtain ⟨i, hi⟩ := h.named k' e hk'
    exact ⟨i, hi, hi⟩
theorem cons_rm {f : Nat} {t : List Nat} (hn : (f :: t).Nodup) : f :: rm f (f :: t) = f :: t := by
  rw [rm_cons_same, rm_none (List.nodup_cons.1 hn).1]
theorem front_pos {s : List Nat} {e f : Nat} (hn : s.Nodup) (hf : s[0]? = some f) (he : e ≠ f) : (rm e s).idxOf f = 0 := by
  cases s with
  | nil => simp at hf
  | cons a t =>
    simp at hf; subst hf
    rw [rm_cons_other (fun q => he q.symm)]
    simp
theorem idx_last {z : Nat} : ∀ {u : List Nat}, z ∉ u → (u ++ [z]).idxOf z = u.length
  | [], _ => by simp
  | a :: u, h => by
    simp only [List.mem_cons, not_or] at h
    have hz : (a == z) = false := by simpa using fun q => h.1 q.symm
    rw [List.cons_append, List.idxOf_cons, hz]
    simp [idx_last h.2]
theorem back_pos {s : List Nat} {e f : Nat} (hn : s.Nodup) (hf : s[s.length - 1]? = some f) (he : e ≠ f) (hes : e ∈ s) : (rm e s).idxOf f + 1 = (rm e s).length := by
  have hl : s ≠ [] := by rintro rfl; simp at hes
  obtain ⟨t, z, rfl⟩ : ∃ t z, s = t ++ [z] := ⟨s.dropLast, s.getLast hl, (List.dropLast_concat_getLast hl).symm⟩
  simp at hf; subst hf
  have hz : z ∉ t := fun q => (List.nodup_append.1 hn).2.2 z q z (by simp) rfl
  rw [rm_append, rm_cons_other (fun q => he q.symm)]
  have hz' : z ∉ rm e t := fun q => hz (mem_rm.1 q).1
  have : rm e ([] : List Nat) = [] := rfl
  rw [this, idx_last hz']
  simp
theorem move_front {ns : List Cl} {l : Nat} (h : Scened ns l) {e f i j : Nat} (he : e ∈ (runFrom Md.init ns).seq l) (hi : (runFrom Md.init ns).ret i = some e) (hf : ((runFrom Md.init ns).seq l)[0]? = some f) (hj : (runFrom Md.init ns).ret j = some f) :
    okFrom 500 Md.init (ns ++ [onL l (cMv 7 i 0)]) = true ∧ okFrom 500 Md.init (ns ++ [onL l (cMv 9 i j)]) = true ∧ ∀ k, Look k (runFrom Md.init (ns ++ [onL l (cMv 7 i 0)])) (runFrom Md.init (ns ++ [onL l (cMv 9 i j)])) := by
  have hfm := List.mem_of_getElem? hf
  have nd := h.wf.nodup l
  have pa := perm_mv h.wf (op := 7) (.inl rfl) h.lst hi he (j := 0) (x := 0) (fun q => by omega) (most := 500)
  have pb := perm_mv h.wf (op := 9) (by simp) h.lst hi he (j := j) (x := f) (fun _ => ⟨hj, hfm⟩) (most := 500)
  have sa := mv_step (m := runFrom Md.init ns) (op := 7) (x := 0) (j := 0) (.inl rfl) hi he (fun q => by omega)
  refine mvs_look h pa pb (s := ins (posOf 7 0 (rm e ((runFrom Md.init ns).seq l))) e (rm e ((runFrom Md.init ns).seq l))) (fun x hx => (move_perm nd he _).mem_iff.1 hx) (by rw [sa]) ?_
  by_cases q : f = e
  · subst q
    rw [mv_9_not (c := onL l (cMv 9 i j)) (l := l) (.inl rfl) (by simp [onL]) (by simpa [onL, cMv] using hi) (by simpa [onL, cMv] using hj) (.inr (.inl rfl))]
    obtain ⟨t, ht⟩ : ∃ t, (runFrom Md.init ns).seq l = f :: t := by
      cases hs : (runFrom Md.init ns).seq l with
      | nil => rw [hs] at he; simp at he
      | cons a t => rw [hs] at hf; simp at hf; subst hf; exact ⟨t, rfl⟩
    have e1 : ins (posOf 7 0 (rm f ((runFrom Md.init ns).seq l))) f (rm f ((runFrom Md.init ns).seq l)) = (runFrom Md.init ns).seq l := by
      show f :: rm f _ = _
      rw [ht] at nd ⊢; exact cons_rm nd
    rw [e1]
    exact (setSeq_self (runFrom Md.init ns).grow l).symm
  · rw [mv_step (m := runFrom Md.init ns) (op := 9) (x := f) (j := j) (by simp) hi he (fun _ => ⟨hj, hfm, q⟩)]
    have : posOf 9 f (rm e ((runFrom Md.init ns).seq l)) = posOf 7 0 (rm e ((runFrom Md.init ns).seq l)) := by
      simp only [posOf]; simp [front_pos nd hf (fun z => q z.symm)]
    rw [this]
theorem move_back {ns : List Cl} {l : Nat} (h : Scened ns l) {e f i j : Nat} (he : e ∈ (runFrom Md.init ns).seq l) (hi : (runFrom Md.init ns).ret i = some e) (hf : ((runFrom Md.init ns).seq l)[((runFrom Md.init ns).seq l).length - 1]? = some f) (hj : (runFrom Md.init ns).ret j = some f) :
    okFrom 500 Md.init (ns ++ [onL l (cMv 8 i 0)]) = true ∧ okFrom 500 Md.init (ns ++ [onL l (cMv 10 i j)]) = true ∧ ∀ k, Look k (runFrom Md.init (ns ++ [onL l (cMv 8 i 0)])) (runFrom Md.init (ns ++ [onL l (cMv 10 i j)])) := by
  have hfm := List.mem_of_getElem? hf
  have nd := h.wf.nodup l
  have pa := perm_mv h.wf (op := 8) (by simp) h.lst hi he (j := 0) (x := 0) (fun q => by omega) (most := 500)
  have pb := perm_mv h.wf (op := 10) (by simp) h.lst hi he (j := j) (x := f) (fun _ => ⟨hj, hfm⟩) (most := 500)
  have sa := mv_step (m := runFrom Md.init ns) (op := 8) (x := 0) (j := 0) (by simp) hi he (fun q => by omega)
  refine mvs_look h pa pb (s := ins (posOf 8 0 (rm e ((runFrom Md.init ns).seq l))) e (rm e ((runFrom Md.init ns).seq l))) (fun x hx => (move_perm nd he _).mem_iff.1 hx) (by rw [sa]) ?_
  by_cases q : f = e
  · subst q
    rw [mv_9_not (c := onL l (cMv 10 i j)) (l := l) (.inr rfl) (by simp [onL]) (by simpa [onL, cMv] using hi) (by simpa [onL, cMv] using hj) (.inr (.inl rfl))]
    have hne : (runFrom Md.init ns).seq l ≠ [] := by intro z; rw [z] at he; simp at he
    obtain ⟨t, z, ht⟩ : ∃ t z, (runFrom Md.init ns).seq l = t ++ [z] := ⟨_, _, (List.dropLast_concat_getLast hne).symm⟩
    have hz : z = f := by rw [ht] at hf; simpa using hf
    subst hz
    have hzt : z ∉ t := fun q => by rw [ht] at nd; exact (List.nodup_append.1 nd).2.2 z q z (by simp) rfl
    have e1 : ins (posOf 8 0 (rm z ((runFrom Md.init ns).seq l))) z (rm z ((runFrom Md.init ns).seq l)) = (runFrom Md.init ns).seq l := by
      have : posOf 8 0 (rm z ((runFrom Md.init ns).seq l)) = (rm z ((runFrom Md.init ns).seq l)).length := by simp [posOf]
      rw [this, ins_length, ht, rm_append, rm_cons_same, rm_none hzt]
      show t ++ [] ++ [z] = _
      simp
    rw [e1]
    exact (setSeq_self (runFrom Md.init ns).grow l).symm
  · rw [mv_step (m := runFrom Md.init ns) (op := 10) (x := f) (j := j) (by simp) hi he (fun _ => ⟨hj, hfm, q⟩)]
    have : posOf 10 f (rm e ((runFrom Md.init ns).seq l)) = posOf 8 0 (rm e ((runFrom Md.init ns).seq l)) := by
      simp only [posOf]; simp [back_pos nd hf (fun z => q z.symm) he]
    rw [this]

set_option maxHeartbeats 8000000 in
theorem moveEnd_c {w : World} {v : Value} {cs : List Cl} (s : Scr w v cs) (hn : cs.length ≤ 1048576) (n k : Int) :
    Calls Try.prog 4 #[v, .int .i64 n, .int .i64 k] w fun r w' => r = .returned (.bool true) ∧ Below w.heap.size w w' := by
  have ST := Lib.hid (set_c s hn n)
  clear s
  go_enter Try.func4, Try.ntmps4
  go_wp2_with fail
  refine ST.out.mono ?_
  rintro r w1 ⟨hb1, hcase⟩
  have B1 := Lib.hid hb1
  clear hb1 ST
  rcases hcase with ⟨l, vs, ve, rfl, hsc, hok0, hl0, hs1, hn1⟩ | rfl
  · have SC := Lib.hid hsc; have S1 := Lib.hid hs1; have N1 := Lib.hid hn1
    generalize hns : namedC cs = ns at *
    clear hns hsc hok0 hl0
    obtain ⟨y1, y2, rfl⟩ := hs1.form
    have NL := Lib.hid (names_length (m := runFrom Md.init ns) ((runFrom Md.init ns).seq l))
    have hlen := scene_len SC.out
    by_cases hE : (runFrom Md.init ns).names ((runFrom Md.init ns).seq l) = []
    · have CH := Lib.hid (fun o => chosen_nil (hn1.later (below1 w1 o)) hE k)
      obtain ⟨x1, x2, rfl⟩ := hn1.form
      clear hs1 hn1 hE
      go_wp2_with fail
      refine (CH.out _).mono ?_
      rintro r w2 ⟨rfl, rfl⟩
      clear CH
      go_wp2
      go_ret
      exact ⟨rfl, B1.out.trans ((below1 w1 _).mono B1.out.size)⟩
    · obtain ⟨m, hm⟩ : ∃ m, ((runFrom Md.init ns).names ((runFrom Md.init ns).seq l)).length = m + 1 := ⟨_, (Nat.succ_pred_eq_of_pos (List.length_pos_iff.2 hE)).symm⟩
      obtain ⟨b1, o1, p1, hv1, cell1⟩ := hn1.cells hE
      rw [hm] at hv1
      subst hv1
      have CH := Lib.hid (fun o => chosen_c (hn1.later (below1 w1 o)) hE (by rw [NL.out]; omega) k)
      obtain ⟨i0, hi0⟩ : ∃ i, ((runFrom Md.init ns).names ((runFrom Md.init ns).seq l))[0]? = some i := ⟨_, List.getElem?_eq_getElem (by omega)⟩
      obtain ⟨i1, hi1⟩ : ∃ i, ((runFrom Md.init ns).names ((runFrom Md.init ns).seq l))[m]? = some i := ⟨_, List.getElem?_eq_getElem (by omega)⟩
      have c0 := cell1 0 i0 hi0
      have c1 := cell1 m i1 hi1
      rw [Nat.add_zero] at c0
      have hbl : b1 < w1.heap.size := World.block_lt_of_cell? w1 _ c0
      have hm5 : m ≤ 500 := by rw [NL.out] at hm; omega
      obtain ⟨f0, hf0, _, hr0⟩ := scene_get SC.out hi0
      obtain ⟨f1, hf1, _, hr1⟩ := scene_get SC.out hi1
      have hln : ((runFrom Md.init ns).seq l).length - 1 = m := by rw [← NL.out, hm]; rfl
      rw [← hln] at hf1
      have MF := Lib.hid (fun e i he hi => move_front SC.out (e := e) (i := i) he hi hf0 hr0)
      have MB := Lib.hid (fun e i he hi => move_back SC.out (e := e) (i := i) he hi hf1 hr1)
      have HL := Lib.hid (fun (m : List Cl) (k : Nat) (hk : k ∈ listsOf ns) => show (runFrom Md.init (ns ++ m)).isL k = true by rw [runFrom_append]; exact run_isL_mono m (mem_lists k hk))
      have LN := SC.out.len
      have wq : IntKind.i64.wrap (((m : Int) + 1) - 1) = (m : Int) := by rw [IntKind.wrap_i64]; omega
      clear hs1 hn1 hE hm hi0 hi1 cell1 hf0 hr0 hf1 hr1 hln hlen
      go_wp2_with fail
      refine (CH.out _).mono ?_
      rintro r wc ⟨i, hi, rfl, rfl⟩
      obtain ⟨e, he, _, hre⟩ := scene_elem SC.out hi
      obtain ⟨a1, a2, a3⟩ := MF.out e i he hre
      obtain ⟨d1, d2, d3⟩ := MB.out e i he hre
      have A1 := Lib.hid a1; have A2 := Lib.hid a2; have A3 := Lib.hid a3; have D1 := Lib.hid d1; have D2 := Lib.hid d2; have D3 := Lib.hid d3
      clear hi he hre a1 a2 a3 d1 d2 d3 CH
      go_wp2_with fail
      go_quiet (fail)
      obtain ⟨w2, hw2⟩ : ∃ W, W = (w1.alloc (.cells #[.slice y1 ns.length y2, .int .i64 (l : Nat), .slice (some ⟨b1, o1, none⟩) (m + 1) p1] 34)).drewN nq := ⟨_, rfl⟩
      have hb2 : Below w1.heap.size w1 w2 := by rw [hw2]; exact Below.drewN' (below1 w1 _) _
      have B2 := Lib.hid (B1.out.trans (hb2.mono B1.out.size))
      have BX : Hid (w2.heap[w1.heap.size]? = some (.cells #[.slice y1 ns.length y2, .int .i64 (l : Nat), .slice (some ⟨b1, o1, none⟩) (m + 1) p1] 34 (0, 0))) := by show _ = _; rw [hw2]; exact heap_alloc_new w1 _
      have S2 := Lib.hid (S1.out.later hb2)
      rw [← hw2]
      clear hw2 hb2 c0 c1 hbl wq
      have HSW0 : ∀ W, Below w2.heap.size w2 W → (fun W => W.cell? ⟨w1.heap.size, 0, none⟩ = some (.slice y1 ns.length y2) ∧ W.cell? ⟨w1.heap.size, 1, none⟩ = some (.int .i64 (l : Nat)) ∧ W.cell? ⟨w1.heap.size, 2, none⟩ = some (.slice (some ⟨b1, o1, none⟩) (m + 1) p1)) W := fun W hb => ⟨cell_of_heap (o := 0) (heap_later BX.out hb) rfl, cell_of_heap (o := 1) (heap_later BX.out hb) rfl, cell_of_heap (o := 2) (heap_later BX.out hb) rfl⟩
      go_wp2_with fail
      refine wp_region_T (fun W => W.cell? ⟨w1.heap.size, 0, none⟩ = some (.slice y1 ns.length y2) ∧ W.cell? ⟨w1.heap.size, 1, none⟩ = some (.int .i64 (l : Nat)) ∧ W.cell? ⟨w1.heap.size, 2, none⟩ = some (.slice (some ⟨b1, o1, none⟩) (m + 1) p1)) [5, 6, 11, 12, 13, 20, 21, 26, 27, 28] [] run_mixed ?_
      simp only [List.size_toArray, List.length_cons, List.length_nil]
      have hb23 : Below w2.heap.size w2 w2.drew := (Below.refl _ _).drew
      have S3 : Hid (Scr w2.drew (.slice y1 ns.length y2) ns) := S2.out.later hb23
      have B3 := Lib.hid (B2.out.trans (hb23.mono B2.out.size))
      have z23 : w2.drew.heap.size = w2.heap.size := rfl
      generalize w2.drew = w3 at *
      have HSW : Hid (∀ W, Below w3.heap.size w3 W → (fun W => W.cell? ⟨w1.heap.size, 0, none⟩ = some (.slice y1 ns.length y2) ∧ W.cell? ⟨w1.heap.size, 1, none⟩ = some (.int .i64 (l : Nat)) ∧ W.cell? ⟨w1.heap.size, 2, none⟩ = some (.slice (some ⟨b1, o1, none⟩) (m + 1) p1)) W) := fun W hb => HSW0 W (hb23.trans (hb.mono (by rw [z23]; exact Nat.le_refl _)))
      have HB0 := Lib.hid (Below.refl w3.heap.size w3)
      have HS := HSW.out w3 HB0.out
      clear hb23 z23 HSW0
      refine wpT_takeG (i := 0) (v := ?va0) rfl (by kernel_rfl) (fun _ _ _ h => h) rfl ?ya0 ?ra0
      case ya0 => ((intro wz; go_simp); try with_reducible rfl)
      try simp only [Act.put, List.setIfInBounds_toArray, List.set_cons_zero, List.set_cons_succ]
      refine wpT_loadG (i := 1) (v := ?va1) rfl (by kernel_rfl) (fun _ _ _ h => h) rfl ?ya1 HS ?ra1
      case ya1 => ((intro wz hSw; (try dsimp only at hSw); go_split_ands; go_simp); try with_reducible rfl)
      try simp only [Act.put, List.setIfInBounds_toArray, List.set_cons_zero, List.set_cons_succ]
      refine wpT_loadG (i := 2) (v := ?va2) rfl (by kernel_rfl) (fun _ _ _ h => h) rfl ?ya2 HS ?ra2
      case ya2 => ((intro wz hSw; (try dsimp only at hSw); go_split_ands; go_simp); try with_reducible rfl)
      try simp only [Act.put, List.setIfInBounds_toArray, List.set_cons_zero, List.set_cons_succ]
      refine wpT_takeG (i := 3) (v := ?va3) rfl (by kernel_rfl) (fun _ _ _ h => h) rfl ?ya3 ?ra3
      case ya3 => ((intro wz; go_simp); try with_reducible rfl)
      try simp only [Act.put, List.setIfInBounds_toArray, List.set_cons_zero, List.set_cons_succ]
      refine wpT_takeG (i := 4) (v := ?va4) rfl (by kernel_rfl) (fun _ _ _ h => h) rfl ?ya4 ?ra4
      case ya4 => ((intro wz; go_simp); try with_reducible rfl)
      try simp only [Act.put, List.setIfInBounds_toArray, List.set_cons_zero, List.set_cons_succ]
      refine wpT_loadG (i := 7) (v := ?va7) rfl (by kernel_rfl) (fun _ _ _ h => h) rfl ?ya7 HS ?ra7
      case ya7 => ((intro wz hSw; (try dsimp only at hSw); go_split_ands; go_simp); try with_reducible rfl)
      try simp only [Act.put, List.setIfInBounds_toArray, List.set_cons_zero, List.set_cons_succ]
      refine wpT_takeG (i := 8) (v := ?va8) rfl (by kernel_rfl) (fun _ _ _ h => h) rfl ?ya8 ?ra8
      case ya8 => ((intro wz; go_simp); try with_reducible rfl)
      try simp only [Act.put, List.setIfInBounds_toArray, List.set_cons_zero, List.set_cons_succ]
      refine wpT_takeG (i := 9) (v := ?va9) rfl (by kernel_rfl) (fun _ _ _ h => h) rfl ?ya9 ?ra9
      case ya9 => ((intro wz; go_simp); try with_reducible rfl)
      try simp only [Act.put, List.setIfInBounds_toArray, List.set_cons_zero, List.set_cons_succ]
      refine wpT_takeG (i := 10) (v := ?va10) rfl (by kernel_rfl) (fun _ _ _ h => h) rfl ?ya10 ?ra10
      case ya10 => ((intro wz; go_simp); try with_reducible rfl)
      try simp only [Act.put, List.setIfInBounds_toArray, List.set_cons_zero, List.set_cons_succ]
      refine wpT_two (i := 5) (j := 11) (by kernel_rfl) rfl rfl rfl rfl ?_ ?_
      · go_simp
        have SF1 : Hid (Scr (w3.alloc (.cells #[.int .i64 7, .int .i64 0, .int .i64 0, .int .i64 i, .int .i64 0, .int .i64 0, .int .i64 0, .string ⟨#[]⟩] 29)) (.slice y1 ns.length y2) ns) := S3.out.later (below1 _ _)
        have SF2 : Hid (Scr (w3.alloc (.cells #[.int .i64 7, .int .i64 0, .int .i64 0, .int .i64 i, .int .i64 0, .int .i64 0, .int .i64 0, .string ⟨#[]⟩] 29)) (.slice (some ⟨w3.heap.size, 0, none⟩) 1 1) [cMv 7 i 0]) := scr_lit w3 [cMv 7 i 0] 29 (w3.heap.size) 1 (by simp) rfl (by simp [cMv]; exact vl_zero_ok)
        refine ⟨cond_keep (by decide) (HSW.out _ (HB0.out.trans ((below1 w3 _).mono HB0.out.size))), ?_⟩
        refine wpT_two (i := 6) (j := 11) (by kernel_rfl) rfl rfl rfl rfl ?_ ?_
        · go_simp
          refine (with_c (ns := ns) (cl := [cMv 7 i 0]) (l := l) SF1.out SF2.out ⟨_, _, _, rfl⟩ (by simp; omega)).mono ?_
          rintro r W3 ⟨va4, rfl, sa5, hb6⟩
          have HB7 := Lib.hid ((HB0.out.trans ((below1 w3 _).mono HB0.out.size)).trans (hb6.mono ((HB0.out.trans ((below1 w3 _).mono HB0.out.size))).size))
          have SF8 : Hid (Scr W3 (.slice y1 ns.length y2) ns) := SF1.out.later hb6
          have SF9 := Lib.hid sa5
          clear sa5 hb6
          refine ⟨cond_keep (by decide) (HSW.out _ HB7.out), ?_⟩
          refine wpT_runG (i := 11) (by kernel_rfl) rfl rfl ?_
          go_simp
          have SF10 : Hid (Scr (W3.alloc (.cells #[.int .i64 9, .int .i64 0, .int .i64 0, .int .i64 i, .int .i64 i0, .int .i64 0, .int .i64 0, .string ⟨#[]⟩] 29)) (.slice y1 ns.length y2) ns) := SF8.out.later (below1 _ _)
          have SF11 : Hid (Scr (W3.alloc (.cells #[.int .i64 9, .int .i64 0, .int .i64 0, .int .i64 i, .int .i64 i0, .int .i64 0, .int .i64 0, .string ⟨#[]⟩] 29)) (va4) (ns ++ [cMv 7 i 0].map (onL l))) := SF9.out.later (below1 _ _)
          have SF12 : Hid (Scr (W3.alloc (.cells #[.int .i64 9, .int .i64 0, .int .i64 0, .int .i64 i, .int .i64 i0, .int .i64 0, .int .i64 0, .string ⟨#[]⟩] 29)) (.slice (some ⟨W3.heap.size, 0, none⟩) 1 1) [cMv 9 i i0]) := scr_lit W3 [cMv 9 i i0] 29 (W3.heap.size) 1 (by simp) rfl (by simp [cMv]; exact vl_zero_ok)
          refine ⟨cond_keep (by decide) (HSW.out _ (HB7.out.trans ((below1 W3 _).mono HB7.out.size))), ?_⟩
          refine wpT_runG (i := 12) (by kernel_rfl) rfl rfl ?_
          go_simp
          refine (with_c (ns := ns) (cl := [cMv 9 i i0]) (l := l) SF10.out SF12.out ⟨_, _, _, rfl⟩ (by simp; omega)).mono ?_
          rintro r W13 ⟨va14, rfl, sa15, hb16⟩
          have HB17 := Lib.hid ((HB7.out.trans ((below1 W3 _).mono HB7.out.size)).trans (hb16.mono ((HB7.out.trans ((below1 W3 _).mono HB7.out.size))).size))
          have SF18 : Hid (Scr W13 (.slice y1 ns.length y2) ns) := SF10.out.later hb16
          have SF19 : Hid (Scr W13 (va4) (ns ++ [cMv 7 i 0].map (onL l))) := SF11.out.later hb16
          have SF20 := Lib.hid sa15
          clear sa15 hb16
          refine ⟨cond_keep (by decide) (HSW.out _ HB17.out), ?_⟩
          refine wpT_runG (i := 13) (by kernel_rfl) rfl rfl ?_
          go_simp
          refine (alike_c SF18.out SF19.out SF20.out A1.out A2.out (HL.out _) (HL.out _) (fun k _ => A3.out k) (by decide) (by omega) (by simp; omega) (by simp; omega)).mono ?_
          rintro r W21 ⟨rfl, hb23⟩
          have HB22 := Lib.hid (HB17.out.trans (hb23.mono HB17.out.size))
          have SF24 : Hid (Scr W21 (.slice y1 ns.length y2) ns) := SF18.out.later hb23
          refine ⟨cond_keep (by decide) (HSW.out _ HB22.out), ?_⟩
          clear hb23
          refine wpT_takeG (i := 14) (v := ?vm1_14) rfl (by kernel_rfl) (fun _ _ _ h => h) rfl ?ym1_14 ?rm1_14
          case ym1_14 => ((intro wz; go_simp); try with_reducible rfl)
          try simp only [Act.put, List.setIfInBounds_toArray, List.set_cons_zero, List.set_cons_succ]
          refine wpT_takeG (i := 15) (v := ?vm1_15) rfl (by kernel_rfl) (fun _ _ _ h => h) rfl ?ym1_15 ?rm1_15
          case ym1_15 => ((intro wz; go_simp); try with_reducible rfl)
          try simp only [Act.put, List.setIfInBounds_toArray, List.set_cons_zero, List.set_cons_succ]
          refine wpT_loadG (i := 16) (v := ?vm1_16) rfl (by kernel_rfl) (fun _ _ _ h => h) rfl ?ym1_16 (HSW.out _ HB22.out) ?rm1_16
          case ym1_16 => ((intro wz hSw; (try dsimp only at hSw); go_split_ands; go_simp); try with_reducible rfl)
          try simp only [Act.put, List.setIfInBounds_toArray, List.set_cons_zero, List.set_cons_succ]
          refine wpT_loadG (i := 17) (v := ?vm1_17) rfl (by kernel_rfl) (fun _ _ _ h => h) rfl ?ym1_17 (HSW.out _ HB22.out) ?rm1_17
          case ym1_17 => ((intro wz hSw; (try dsimp only at hSw); go_split_ands; go_simp); try with_reducible rfl)
          try simp only [Act.put, List.setIfInBounds_toArray, List.set_cons_zero, List.set_cons_succ]
          refine wpT_takeG (i := 18) (v := ?vm1_18) rfl (by kernel_rfl) (fun _ _ _ h => h) rfl ?ym1_18 ?rm1_18
          case ym1_18 => ((intro wz; go_simp); try with_reducible rfl)
          try simp only [Act.put, List.setIfInBounds_toArray, List.set_cons_zero, List.set_cons_succ]
          refine wpT_takeG (i := 19) (v := ?vm1_19) rfl (by kernel_rfl) (fun _ _ _ h => h) rfl ?ym1_19 ?rm1_19
          case ym1_19 => ((intro wz; go_simp); try with_reducible rfl)
          try simp only [Act.put, List.setIfInBounds_toArray, List.set_cons_zero, List.set_cons_succ]
          refine wpT_loadG (i := 22) (v := ?vm1_22) rfl (by kernel_rfl) (fun _ _ _ h => h) rfl ?ym1_22 (HSW.out _ HB22.out) ?rm1_22
          case ym1_22 => ((intro wz hSw; (try dsimp only at hSw); go_split_ands; go_simp); try with_reducible rfl)
          try simp only [Act.put, List.setIfInBounds_toArray, List.set_cons_zero, List.set_cons_succ]
          refine wpT_takeG (i := 23) (v := ?vm1_23) rfl (by kernel_rfl) (fun _ _ _ h => h) rfl ?ym1_23 ?rm1_23
          case ym1_23 => ((intro wz; go_simp); try with_reducible rfl)
          try simp only [Act.put, List.setIfInBounds_toArray, List.set_cons_zero, List.set_cons_succ]
          refine wpT_takeG (i := 24) (v := ?vm1_24) rfl (by kernel_rfl) (fun _ _ _ h => h) rfl ?ym1_24 ?rm1_24
          case ym1_24 => ((intro wz; go_simp); try with_reducible rfl)
          try simp only [Act.put, List.setIfInBounds_toArray, List.set_cons_zero, List.set_cons_succ]
          refine wpT_takeG (i := 25) (v := ?vm1_25) rfl (by kernel_rfl) (fun _ _ _ h => h) rfl ?ym1_25 ?rm1_25
          case ym1_25 => ((intro wz; go_simp); try with_reducible rfl)
          try simp only [Act.put, List.setIfInBounds_toArray, List.set_cons_zero, List.set_cons_succ]
          refine wpT_two (i := 20) (j := 26) (by kernel_rfl) rfl rfl rfl rfl ?_ ?_
          · go_simp
            have SF25 : Hid (Scr (W21.alloc (.cells #[.int .i64 8, .int .i64 0, .int .i64 0, .int .i64 i, .int .i64 0, .int .i64 0, .int .i64 0, .string ⟨#[]⟩] 29)) (.slice y1 ns.length y2) ns) := SF24.out.later (below1 _ _)
            have SF26 : Hid (Scr (W21.alloc (.cells #[.int .i64 8, .int .i64 0, .int .i64 0, .int .i64 i, .int .i64 0, .int .i64 0, .int .i64 0, .string ⟨#[]⟩] 29)) (.slice (some ⟨W21.heap.size, 0, none⟩) 1 1) [cMv 8 i 0]) := scr_lit W21 [cMv 8 i 0] 29 (W21.heap.size) 1 (by simp) rfl (by simp [cMv]; exact vl_zero_ok)
            refine ⟨cond_keep (by decide) (HSW.out _ (HB22.out.trans ((below1 W21 _).mono HB22.out.size))), ?_⟩
            refine wpT_two (i := 21) (j := 26) (by kernel_rfl) rfl rfl rfl rfl ?_ ?_
            · go_simp
              refine (with_c (ns := ns) (cl := [cMv 8 i 0]) (l := l) SF25.out SF26.out ⟨_, _, _, rfl⟩ (by simp; omega)).mono ?_
              rintro r W27 ⟨va28, rfl, sa29, hb30⟩
              have HB31 := Lib.hid ((HB22.out.trans ((below1 W21 _).mono HB22.out.size)).trans (hb30.mono ((HB22.out.trans ((below1 W21 _).mono HB22.out.size))).size))
              have SF32 : Hid (Scr W27 (.slice y1 ns.length y2) ns) := SF25.out.later hb30
              have SF33 := Lib.hid sa29
              clear sa29 hb30
              refine ⟨cond_keep (by decide) (HSW.out _ HB31.out), ?_⟩
              refine wpT_runG (i := 26) (by kernel_rfl) rfl rfl ?_
              go_simp
              have SF34 : Hid (Scr (W27.alloc (.cells #[.int .i64 10, .int .i64 0, .int .i64 0, .int .i64 i, .int .i64 i1, .int .i64 0, .int .i64 0, .string ⟨#[]⟩] 29)) (.slice y1 ns.length y2) ns) := SF32.out.later (below1 _ _)
              have SF35 : Hid (Scr (W27.alloc (.cells #[.int .i64 10, .int .i64 0, .int .i64 0, .int .i64 i, .int .i64 i1, .int .i64 0, .int .i64 0, .string ⟨#[]⟩] 29)) (va28) (ns ++ [cMv 8 i 0].map (onL l))) := SF33.out.later (below1 _ _)
              have SF36 : Hid (Scr (W27.alloc (.cells #[.int .i64 10, .int .i64 0, .int .i64 0, .int .i64 i, .int .i64 i1, .int .i64 0, .int .i64 0, .string ⟨#[]⟩] 29)) (.slice (some ⟨W27.heap.size, 0, none⟩) 1 1) [cMv 10 i i1]) := scr_lit W27 [cMv 10 i i1] 29 (W27.heap.size) 1 (by simp) rfl (by simp [cMv]; exact vl_zero_ok)
              refine ⟨cond_keep (by decide) (HSW.out _ (HB31.out.trans ((below1 W27 _).mono HB31.out.size))), ?_⟩
              refine wpT_runG (i := 27) (by kernel_rfl) rfl rfl ?_
              go_simp
              refine (with_c (ns := ns) (cl := [cMv 10 i i1]) (l := l) SF34.out SF36.out ⟨_, _, _, rfl⟩ (by simp; omega)).mono ?_
              rintro r W37 ⟨va38, rfl, sa39, hb40⟩
              have HB41 := Lib.hid ((HB31.out.trans ((below1 W27 _).mono HB31.out.size)).trans (hb40.mono ((HB31.out.trans ((below1 W27 _).mono HB31.out.size))).size))
              have SF42 : Hid (Scr W37 (.slice y1 ns.length y2) ns) := SF34.out.later hb40
              have SF43 : Hid (Scr W37 (va28) (ns ++ [cMv 8 i 0].map (onL l))) := SF35.out.later hb40
              have SF44 := Lib.hid sa39
              clear sa39 hb40
              refine ⟨cond_keep (by decide) (HSW.out _ HB41.out), ?_⟩
              refine wpT_runG (i := 28) (by kernel_rfl) rfl rfl ?_
              go_simp
              refine (alike_c SF42.out SF43.out SF44.out D1.out D2.out (HL.out _) (HL.out _) (fun k _ => D3.out k) (by decide) (by omega) (by simp; omega) (by simp; omega)).mono ?_
              rintro r wf ⟨rfl, hbf⟩
              refine ⟨cond_keep (by decide) (HSW.out _ (HB41.out.trans (hbf.mono HB41.out.size))), ?_⟩
              have BF := Lib.hid (B3.out.trans ((HB41.out.trans (hbf.mono HB41.out.size)).mono B3.out.size))
              clear hbf
              refine wpT_takeG (i := 29) (v := ?vz2_29) rfl (by kernel_rfl) (fun _ _ _ h => h) rfl ?yz2_29 ?rz2_29
              case yz2_29 => ((intro wz; go_simp); try with_reducible rfl)
              try simp only [Act.put, List.setIfInBounds_toArray, List.set_cons_zero, List.set_cons_succ]
              refine wpT_takeG (i := 30) (v := ?vz2_30) rfl (by kernel_rfl) (fun _ _ _ h => h) rfl ?yz2_30 ?rz2_30
              case yz2_30 => ((intro wz; go_simp); try with_reducible rfl)
              try simp only [Act.put, List.setIfInBounds_toArray, List.set_cons_zero, List.set_cons_succ]
              refine wpT_done (by kernel_rfl) ?_ _
              go_wp2
              go_ret
              exact ⟨rfl, BF.out⟩
            · go_simp
              have SF45 : Hid (Scr ((W21.alloc (.cells #[.int .i64 8, .int .i64 0, .int .i64 0, .int .i64 i, .int .i64 0, .int .i64 0, .int .i64 0, .string ⟨#[]⟩] 29)).alloc (.cells #[.int .i64 10, .int .i64 0, .int .i64 0, .int .i64 i, .int .i64 i1, .int .i64 0, .int .i64 0, .string ⟨#[]⟩] 29)) (.slice y1 ns.length y2) ns) := SF25.out.later (below1 _ _)
              have SF46 : Hid (Scr ((W21.alloc (.cells #[.int .i64 8, .int .i64 0, .int .i64 0, .int .i64 i, .int .i64 0, .int .i64 0, .int .i64 0, .string ⟨#[]⟩] 29)).alloc (.cells #[.int .i64 10, .int .i64 0, .int .i64 0, .int .i64 i, .int .i64 i1, .int .i64 0, .int .i64 0, .string ⟨#[]⟩] 29)) (.slice (some ⟨W21.heap.size, 0, none⟩) 1 1) [cMv 8 i 0]) := SF26.out.later (below1 _ _)
              have SF47 : Hid (Scr ((W21.alloc (.cells #[.int .i64 8, .int .i64 0, .int .i64 0, .int .i64 i, .int .i64 0, .int .i64 0, .int .i64 0, .string ⟨#[]⟩] 29)).alloc (.cells #[.int .i64 10, .int .i64 0, .int .i64 0, .int .i64 i, .int .i64 i1, .int .i64 0, .int .i64 0, .string ⟨#[]⟩] 29)) (.slice (some ⟨W21.heap.size + 1, 0, none⟩) 1 1) [cMv 10 i i1]) := scr_lit (W21.alloc (.cells #[.int .i64 8, .int .i64 0, .int .i64 0, .int .i64 i, .int .i64 0, .int .i64 0, .int .i64 0, .string ⟨#[]⟩] 29)) [cMv 10 i i1] 29 (W21.heap.size + 1) 1 (by simp) rfl (by simp [cMv]; exact vl_zero_ok)
              refine ⟨cond_keep (by decide) (HSW.out _ (HB22.out.trans ((below2 W21 _ _).mono HB22.out.size))), ?_⟩
              refine wpT_runG (i := 21) (by kernel_rfl) rfl rfl ?_
              go_simp
              refine (with_c (ns := ns) (cl := [cMv 8 i 0]) (l := l) SF45.out SF46.out ⟨_, _, _, rfl⟩ (by simp; omega)).mono ?_
              rintro r W48 ⟨va49, rfl, sa50, hb51⟩
              have HB52 := Lib.hid ((HB22.out.trans ((below2 W21 _ _).mono HB22.out.size)).trans (hb51.mono ((HB22.out.trans ((below2 W21 _ _).mono HB22.out.size))).size))
              have SF53 : Hid (Scr W48 (.slice y1 ns.length y2) ns) := SF45.out.later hb51
              have SF54 : Hid (Scr W48 (.slice (some ⟨W21.heap.size + 1, 0, none⟩) 1 1) [cMv 10 i i1]) := SF47.out.later hb51
              have SF55 := Lib.hid sa50
              clear sa50 hb51
              refine ⟨cond_keep (by decide) (HSW.out _ HB52.out), ?_⟩
              refine wpT_runG (i := 27) (by kernel_rfl) rfl rfl ?_
              go_simp
              refine (with_c (ns := ns) (cl := [cMv 10 i i1]) (l := l) SF53.out SF54.out ⟨_, _, _, rfl⟩ (by simp; omega)).mono ?_
              rintro r W56 ⟨va57, rfl, sa58, hb59⟩
              have HB60 := Lib.hid ((HB52.out.trans ((Below.refl _ W48).mono HB52.out.size)).trans (hb59.mono ((HB52.out.trans ((Below.refl _ W48).mono HB52.out.size))).size))
              have SF61 : Hid (Scr W56 (.slice y1 ns.length y2) ns) := SF53.out.later hb59
              have SF62 : Hid (Scr W56 (va49) (ns ++ [cMv 8 i 0].map (onL l))) := SF55.out.later hb59
              have SF63 := Lib.hid sa58
              clear sa58 hb59
              refine ⟨cond_keep (by decide) (HSW.out _ HB60.out), ?_⟩
              refine wpT_runG (i := 28) (by kernel_rfl) rfl rfl ?_
              go_simp
              refine (alike_c SF61.out SF62.out SF63.out D1.out D2.out (HL.out _) (HL.out _) (fun k _ => D3.out k) (by decide) (by omega) (by simp; omega) (by simp; omega)).mono ?_
              rintro r wf ⟨rfl, hbf⟩
              refine ⟨cond_keep (by decide) (HSW.out _ (HB60.out.trans (hbf.mono HB60.out.size))), ?_⟩
              have BF := Lib.hid (B3.out.trans ((HB60.out.trans (hbf.mono HB60.out.size)).mono B3.out.size))
              clear hbf
              refine wpT_takeG (i := 29) (v := ?vz3_29) rfl (by kernel_rfl) (fun _ _ _ h => h) rfl ?yz3_29 ?rz3_29
              case yz3_29 => ((intro wz; go_simp); try with_reducible rfl)
              try simp only [Act.put, List.setIfInBounds_toArray, List.set_cons_zero, List.set_cons_succ]
              refine wpT_takeG (i := 30) (v := ?vz3_30) rfl (by kernel_rfl) (fun _ _ _ h => h) rfl ?yz3_30 ?rz3_30
              case yz3_30 => ((intro wz; go_simp); try with_reducible rfl)
              try simp only [Act.put, List.setIfInBounds_toArray, List.set_cons_zero, List.set_cons_succ]
              refine wpT_done (by kernel_rfl) ?_ _
              go_wp2
              go_ret
              exact ⟨rfl, BF.out⟩
          · go_simp
            have SF64 : Hid (Scr (W21.alloc (.cells #[.int .i64 10, .int .i64 0, .int .i64 0, .int .i64 i, .int .i64 i1, .int .i64 0, .int .i64 0, .string ⟨#[]⟩] 29)) (.slice y1 ns.length y2) ns) := SF24.out.later (below1 _ _)
            have SF65 : Hid (Scr (W21.alloc (.cells #[.int .i64 10, .int .i64 0, .int .i64 0, .int .i64 i, .int .i64 i1, .int .i64 0, .int .i64 0, .string ⟨#[]⟩] 29)) (.slice (some ⟨W21.heap.size, 0, none⟩) 1 1) [cMv 10 i i1]) := scr_lit W21 [cMv 10 i i1] 29 (W21.heap.size) 1 (by simp) rfl (by simp [cMv]; exact vl_zero_ok)
            refine ⟨cond_keep (by decide) (HSW.out _ (HB22.out.trans ((below1 W21 _).mono HB22.out.size))), ?_⟩
            refine wpT_runG (i := 20) (by kernel_rfl) rfl rfl ?_
            go_simp
            have SF66 : Hid (Scr ((W21.alloc (.cells #[.int .i64 10, .int .i64 0, .int .i64 0, .int .i64 i, .int .i64 i1, .int .i64 0, .int .i64 0, .string ⟨#[]⟩] 29)).alloc (.cells #[.int .i64 8, .int .i64 0, .int .i64 0, .int .i64 i, .int .i64 0, .int .i64 0, .int .i64 0, .string ⟨#[]⟩] 29)) (.slice y1 ns.length y2) ns) := SF64.out.later (below1 _ _)
            have SF67 : Hid (Scr ((W21.alloc (.cells #[.int .i64 10, .int .i64 0, .int .i64 0, .int .i64 i, .int .i64 i1, .int .i64 0, .int .i64 0, .string ⟨#[]⟩] 29)).alloc (.cells #[.int .i64 8, .int .i64 0, .int .i64 0, .int .i64 i, .int .i64 0, .int .i64 0, .int .i64 0, .string ⟨#[]⟩] 29)) (.slice (some ⟨W21.heap.size, 0, none⟩) 1 1) [cMv 10 i i1]) := SF65.out.later (below1 _ _)
            have SF68 : Hid (Scr ((W21.alloc (.cells #[.int .i64 10, .int .i64 0, .int .i64 0, .int .i64 i, .int .i64 i1, .int .i64 0, .int .i64 0, .string ⟨#[]⟩] 29)).alloc (.cells #[.int .i64 8, .int .i64 0, .int .i64 0, .int .i64 i, .int .i64 0, .int .i64 0, .int .i64 0, .string ⟨#[]⟩] 29)) (.slice (some ⟨W21.heap.size + 1, 0, none⟩) 1 1) [cMv 8 i 0]) := scr_lit (W21.alloc (.cells #[.int .i64 10, .int .i64 0, .int .i64 0, .int .i64 i, .int .i64 i1, .int .i64 0, .int .i64 0, .string ⟨#[]⟩] 29)) [cMv 8 i 0] 29 (W21.heap.size + 1) 1 (by simp) rfl (by simp [cMv]; exact vl_zero_ok)
            refine ⟨cond_keep (by decide) (HSW.out _ (HB22.out.trans ((below2 W21 _ _).mono HB22.out.size))), ?_⟩
            refine wpT_runG (i := 21) (by kernel_rfl) rfl rfl ?_
            go_simp
            refine (with_c (ns := ns) (cl := [cMv 8 i 0]) (l := l) SF66.out SF68.out ⟨_, _, _, rfl⟩ (by simp; omega)).mono ?_
            rintro r W69 ⟨va70, rfl, sa71, hb72⟩
            have HB73 := Lib.hid ((HB22.out.trans ((below2 W21 _ _).mono HB22.out.size)).trans (hb72.mono ((HB22.out.trans ((below2 W21 _ _).mono HB22.out.size))).size))
            have SF74 : Hid (Scr W69 (.slice y1 ns.length y2) ns) := SF66.out.later hb72
            have SF75 : Hid (Scr W69 (.slice (some ⟨W21.heap.size, 0, none⟩) 1 1) [cMv 10 i i1]) := SF67.out.later hb72
            have SF76 := Lib.hid sa71
            clear sa71 hb72
            refine ⟨cond_keep (by decide) (HSW.out _ HB73.out), ?_⟩
            refine wpT_runG (i := 27) (by kernel_rfl) rfl rfl ?_
            go_simp
            refine (with_c (ns := ns) (cl := [cMv 10 i i1]) (l := l) SF74.out SF75.out ⟨_, _, _, rfl⟩ (by simp; omega)).mono ?_
            rintro r W77 ⟨va78, rfl, sa79, hb80⟩
            have HB81 := Lib.hid ((HB73.out.trans ((Below.refl _ W69).mono HB73.out.size)).trans (hb80.mono ((HB73.out.trans ((Below.refl _ W69).mono HB73.out.size))).size))
            have SF82 : Hid (Scr W77 (.slice y1 ns.length y2) ns) := SF74.out.later hb80
            have SF83 : Hid (Scr W77 (va70) (ns ++ [cMv 8 i 0].map (onL l))) := SF76.out.later hb80
            have SF84 := Lib.hid sa79
            clear sa79 hb80
            refine ⟨cond_keep (by decide) (HSW.out _ HB81.out), ?_⟩
            refine wpT_runG (i := 28) (by kernel_rfl) rfl rfl ?_
            go_simp
            refine (alike_c SF82.out SF83.out SF84.out D1.out D2.out (HL.out _) (HL.out _) (fun k _ => D3.out k) (by decide) (by omega) (by simp; omega) (by simp; omega)).mono ?_
            rintro r wf ⟨rfl, hbf⟩
            refine ⟨cond_keep (by decide) (HSW.out _ (HB81.out.trans (hbf.mono HB81.out.size))), ?_⟩
            have BF := Lib.hid (B3.out.trans ((HB81.out.trans (hbf.mono HB81.out.size)).mono B3.out.size))
            clear hbf
            refine wpT_takeG (i := 29) (v := ?vz4_29) rfl (by kernel_rfl) (fun _ _ _ h => h) rfl ?yz4_29 ?rz4_29
            case yz4_29 => ((intro wz; go_simp); try with_reducible rfl)
            try simp only [Act.put, List.setIfInBounds_toArray, List.set_cons_zero, List.set_cons_succ]
            refine wpT_takeG (i := 30) (v := ?vz4_30) rfl (by kernel_rfl) (fun _ _ _ h => h) rfl ?yz4_30 ?rz4_30
            case yz4_30 => ((intro wz; go_simp); try with_reducible rfl)
            try simp only [Act.put, List.setIfInBounds_toArray, List.set_cons_zero, List.set_cons_succ]
            refine wpT_done (by kernel_rfl) ?_ _
            go_wp2
            go_ret
            exact ⟨rfl, BF.out⟩
        · go_simp
          have SF85 : Hid (Scr ((w3.alloc (.cells #[.int .i64 7, .int .i64 0, .int .i64 0, .int .i64 i, .int .i64 0, .int .i64 0, .int .i64 0, .string ⟨#[]⟩] 29)).alloc (.cells #[.int .i64 9, .int .i64 0, .int .i64 0, .int .i64 i, .int .i64 i0, .int .i64 0, .int .i64 0, .string ⟨#[]⟩] 29)) (.slice y1 ns.length y2) ns) := SF1.out.later (below1 _ _)
          have SF86 : Hid (Scr ((w3.alloc (.cells #[.int .i64 7, .int .i64 0, .int .i64 0, .int .i64 i, .int .i64 0, .int .i64 0, .int .i64 0, .string ⟨#[]⟩] 29)).alloc (.cells #[.int .i64 9, .int .i64 0, .int .i64 0, .int .i64 i, .int .i64 i0, .int .i64 0, .int .i64 0, .string ⟨#[]⟩] 29)) (.slice (some ⟨w3.heap.size, 0, none⟩) 1 1) [cMv 7 i 0]) := SF2.out.later (below1 _ _)
          have SF87 : Hid (Scr ((w3.alloc (.cells #[.int .i64 7, .int .i64 0, .int .i64 0, .int .i64 i, .int .i64 0, .int .i64 0, .int .i64 0, .string ⟨#[]⟩] 29)).alloc (.cells #[.int .i64 9, .int .i64 0, .int .i64 0, .int .i64 i, .int .i64 i0, .int .i64 0, .int .i64 0, .string ⟨#[]⟩] 29)) (.slice (some ⟨w3.heap.size + 1, 0, none⟩) 1 1) [cMv 9 i i0]) := scr_lit (w3.alloc (.cells #[.int .i64 7, .int .i64 0, .int .i64 0, .int .i64 i, .int .i64 0, .int .i64 0, .int .i64 0, .string ⟨#[]⟩] 29)) [cMv 9 i i0] 29 (w3.heap.size + 1) 1 (by simp) rfl (by simp [cMv]; exact vl_zero_ok)
          refine ⟨cond_keep (by decide) (HSW.out _ (HB0.out.trans ((below2 w3 _ _).mono HB0.out.size))), ?_⟩
          refine wpT_runG (i := 6) (by kernel_rfl) rfl rfl ?_
          go_simp
          refine (with_c (ns := ns) (cl := [cMv 7 i 0]) (l := l) SF85.out SF86.out ⟨_, _, _, rfl⟩ (by simp; omega)).mono ?_
          rintro r W88 ⟨va89, rfl, sa90, hb91⟩
          have HB92 := Lib.hid ((HB0.out.trans ((below2 w3 _ _).mono HB0.out.size)).trans (hb91.mono ((HB0.out.trans ((below2 w3 _ _).mono HB0.out.size))).size))
          have SF93 : Hid (Scr W88 (.slice y1 ns.length y2) ns) := SF85.out.later hb91
          have SF94 : Hid (Scr W88 (.slice (some ⟨w3.heap.size + 1, 0, none⟩) 1 1) [cMv 9 i i0]) := SF87.out.later hb91
          have SF95 := Lib.hid sa90
          clear sa90 hb91
          refine ⟨cond_keep (by decide) (HSW.out _ HB92.out), ?_⟩
          refine wpT_runG (i := 12) (by kernel_rfl) rfl rfl ?_
          go_simp
          refine (with_c (ns := ns) (cl := [cMv 9 i i0]) (l := l) SF93.out SF94.out ⟨_, _, _, rfl⟩ (by simp; omega)).mono ?_
          rintro r W96 ⟨va97, rfl, sa98, hb99⟩
          have HB100 := Lib.hid ((HB92.out.trans ((Below.refl _ W88).mono HB92.out.size)).trans (hb99.mono ((HB92.out.trans ((Below.refl _ W88).mono HB92.out.size))).size))
          have SF101 : Hid (Scr W96 (.slice y1 ns.length y2) ns) := SF93.out.later hb99
          have SF102 : Hid (Scr W96 (va89) (ns ++ [cMv 7 i 0].map (onL l))) := SF95.out.later hb99
          have SF103 := Lib.hid sa98
          clear sa98 hb99
          refine ⟨cond_keep (by decide) (HSW.out _ HB100.out), ?_⟩
          refine wpT_runG (i := 13) (by kernel_rfl) rfl rfl ?_
          go_simp
          refine (alike_c SF101.out SF102.out SF103.out A1.out A2.out (HL.out _) (HL.out _) (fun k _ => A3.out k) (by decide) (by omega) (by simp; omega) (by simp; omega)).mono ?_
          rintro r W104 ⟨rfl, hb106⟩
          have HB105 := Lib.hid (HB100.out.trans (hb106.mono HB100.out.size))
          have SF107 : Hid (Scr W104 (.slice y1 ns.length y2) ns) := SF101.out.later hb106
          refine ⟨cond_keep (by decide) (HSW.out _ HB105.out), ?_⟩
          clear hb106
          refine wpT_takeG (i := 14) (v := ?vm5_14) rfl (by kernel_rfl) (fun _ _ _ h => h) rfl ?ym5_14 ?rm5_14
          case ym5_14 => ((intro wz; go_simp); try with_reducible rfl)
          try simp only [Act.put, List.setIfInBounds_toArray, List.set_cons_zero, List.set_cons_succ]
          refine wpT_takeG (i := 15) (v := ?vm5_15) rfl (by kernel_rfl) (fun _ _ _ h => h) rfl ?ym5_15 ?rm5_15
          case ym5_15 => ((intro wz; go_simp); try with_reducible rfl)
          try simp only [Act.put, List.setIfInBounds_toArray, List.set_cons_zero, List.set_cons_succ]
          refine wpT_loadG (i := 16) (v := ?vm5_16) rfl (by kernel_rfl) (fun _ _ _ h => h) rfl ?ym5_16 (HSW.out _ HB105.out) ?rm5_16
          case ym5_16 => ((intro wz hSw; (try dsimp only at hSw); go_split_ands; go_simp); try with_reducible rfl)
          try simp only [Act.put, List.setIfInBounds_toArray, List.set_cons_zero, List.set_cons_succ]
          refine wpT_loadG (i := 17) (v := ?vm5_17) rfl (by kernel_rfl) (fun _ _ _ h => h) rfl ?ym5_17 (HSW.out _ HB105.out) ?rm5_17
          case ym5_17 => ((intro wz hSw; (try dsimp only at hSw); go_split_ands; go_simp); try with_reducible rfl)
          try simp only [Act.put, List.setIfInBounds_toArray, List.set_cons_zero, List.set_cons_succ]
          refine wpT_takeG (i := 18) (v := ?vm5_18) rfl (by kernel_rfl) (fun _ _ _ h => h) rfl ?ym5_18 ?rm5_18
          case ym5_18 => ((intro wz; go_simp); try with_reducible rfl)
          try simp only [Act.put, List.setIfInBounds_toArray, List.set_cons_zero, List.set_cons_succ]
          refine wpT_takeG (i := 19) (v := ?vm5_19) rfl (by kernel_rfl) (fun _ _ _ h => h) rfl ?ym5_19 ?rm5_19
          case ym5_19 => ((intro wz; go_simp); try with_reducible rfl)
          try simp only [Act.put, List.setIfInBounds_toArray, List.set_cons_zero, List.set_cons_succ]
          refine wpT_loadG (i := 22) (v := ?vm5_22) rfl (by kernel_rfl) (fun _ _ _ h => h) rfl ?ym5_22 (HSW.out _ HB105.out) ?rm5_22
          case ym5_22 => ((intro wz hSw; (try dsimp only at hSw); go_split_ands; go_simp); try with_reducible rfl)
          try simp only [Act.put, List.setIfInBounds_toArray, List.set_cons_zero, List.set_cons_succ]
          refine wpT_takeG (i := 23) (v := ?vm5_23) rfl (by kernel_rfl) (fun _ _ _ h => h) rfl ?ym5_23 ?rm5_23
          case ym5_23 => ((intro wz; go_simp); try with_reducible rfl)
          try simp only [Act.put, List.setIfInBounds_toArray, List.set_cons_zero, List.set_cons_succ]
          refine wpT_takeG (i := 24) (v := ?vm5_24) rfl (by kernel_rfl) (fun _ _ _ h => h) rfl ?ym5_24 ?rm5_24
          case ym5_24 => ((intro wz; go_simp); try with_reducible rfl)
          try simp only [Act.put, List.setIfInBounds_toArray, List.set_cons_zero, List.set_cons_succ]
          refine wpT_takeG (i := 25) (v := ?vm5_25) rfl (by kernel_rfl) (fun _ _ _ h => h) rfl ?ym5_25 ?rm5_25
          case ym5_25 => ((intro wz; go_simp); try with_reducible rfl)
          try simp only [Act.put, List.setIfInBounds_toArray, List.set_cons_zero, List.set_cons_succ]
          refine wpT_two (i := 20) (j := 26) (by kernel_rfl) rfl rfl rfl rfl ?_ ?_
          · go_simp
            have SF108 : Hid (Scr (W104.alloc (.cells #[.int .i64 8, .int .i64 0, .int .i64 0, .int .i64 i, .int .i64 0, .int .i64 0, .int .i64 0, .string ⟨#[]⟩] 29)) (.slice y1 ns.length y2) ns) := SF107.out.later (below1 _ _)
            have SF109 : Hid (Scr (W104.alloc (.cells #[.int .i64 8, .int .i64 0, .int .i64 0, .int .i64 i, .int .i64 0, .int .i64 0, .int .i64 0, .string ⟨#[]⟩] 29)) (.slice (some ⟨W104.heap.size, 0, none⟩) 1 1) [cMv 8 i 0]) := scr_lit W104 [cMv 8 i 0] 29 (W104.heap.size) 1 (by simp) rfl (by simp [cMv]; exact vl_zero_ok)
            refine ⟨cond_keep (by decide) (HSW.out _ (HB105.out.trans ((below1 W104 _).mono HB105.out.size))), ?_⟩
            refine wpT_two (i := 21) (j := 26) (by kernel_rfl) rfl rfl rfl rfl ?_ ?_
            · go_simp
              refine (with_c (ns := ns) (cl := [cMv 8 i 0]) (l := l) SF108.out SF109.out ⟨_, _, _, rfl⟩ (by simp; omega)).mono ?_
              rintro r W110 ⟨va111, rfl, sa112, hb113⟩
              have HB114 := Lib.hid ((HB105.out.trans ((below1 W104 _).mono HB105.out.size)).trans (hb113.mono ((HB105.out.trans ((below1 W104 _).mono HB105.out.size))).size))
              have SF115 : Hid (Scr W110 (.slice y1 ns.length y2) ns) := SF108.out.later hb113
              have SF116 := Lib.hid sa112
              clear sa112 hb113
              refine ⟨cond_keep (by decide) (HSW.out _ HB114.out), ?_⟩
              refine wpT_runG (i := 26) (by kernel_rfl) rfl rfl ?_
              go_simp
              have SF117 : Hid (Scr (W110.alloc (.cells #[.int .i64 10, .int .i64 0, .int .i64 0, .int .i64 i, .int .i64 i1, .int .i64 0, .int .i64 0, .string ⟨#[]⟩] 29)) (.slice y1 ns.length y2) ns) := SF115.out.later (below1 _ _)
              have SF118 : Hid (Scr (W110.alloc (.cells #[.int .i64 10, .int .i64 0, .int .i64 0, .int .i64 i, .int .i64 i1, .int .i64 0, .int .i64 0, .string ⟨#[]⟩] 29)) (va111) (ns ++ [cMv 8 i 0].map (onL l))) := SF116.out.later (below1 _ _)
              have SF119 : Hid (Scr (W110.alloc (.cells #[.int .i64 10, .int .i64 0, .int .i64 0, .int .i64 i, .int .i64 i1, .int .i64 0, .int .i64 0, .string ⟨#[]⟩] 29)) (.slice (some ⟨W110.heap.size, 0, none⟩) 1 1) [cMv 10 i i1]) := scr_lit W110 [cMv 10 i i1] 29 (W110.heap.size) 1 (by simp) rfl (by simp [cMv]; exact vl_zero_ok)
              refine ⟨cond_keep (by decide) (HSW.out _ (HB114.out.trans ((below1 W110 _).mono HB114.out.size))), ?_⟩
              refine wpT_runG (i := 27) (by kernel_rfl) rfl rfl ?_
              go_simp
              refine (with_c (ns := ns) (cl := [cMv 10 i i1]) (l := l) SF117.out SF119.out ⟨_, _, _, rfl⟩ (by simp; omega)).mono ?_
              rintro r W120 ⟨va121, rfl, sa122, hb123⟩
              have HB124 := Lib.hid ((HB114.out.trans ((below1 W110 _).mono HB114.out.size)).trans (hb123.mono ((HB114.out.trans ((below1 W110 _).mono HB114.out.size))).size))
              have SF125 : Hid (Scr W120 (.slice y1 ns.length y2) ns) := SF117.out.later hb123
              have SF126 : Hid (Scr W120 (va111) (ns ++ [cMv 8 i 0].map (onL l))) := SF118.out.later hb123
              have SF127 := Lib.hid sa122
              clear sa122 hb123
              refine ⟨cond_keep (by decide) (HSW.out _ HB124.out), ?_⟩
              refine wpT_runG (i := 28) (by kernel_rfl) rfl rfl ?_
              go_simp
              refine (alike_c SF125.out SF126.out SF127.out D1.out D2.out (HL.out _) (HL.out _) (fun k _ => D3.out k) (by decide) (by omega) (by simp; omega) (by simp; omega)).mono ?_
              rintro r wf ⟨rfl, hbf⟩
              refine ⟨cond_keep (by decide) (HSW.out _ (HB124.out.trans (hbf.mono HB124.out.size))), ?_⟩
              have BF := Lib.hid (B3.out.trans ((HB124.out.trans (hbf.mono HB124.out.size)).mono B3.out.size))
              clear hbf
              refine wpT_takeG (i := 29) (v := ?vz6_29) rfl (by kernel_rfl) (fun _ _ _ h => h) rfl ?yz6_29 ?rz6_29
              case yz6_29 => ((intro wz; go_simp); try with_reducible rfl)
              try simp only [Act.put, List.setIfInBounds_toArray, List.set_cons_zero, List.set_cons_succ]
              refine wpT_takeG (i := 30) (v := ?vz6_30) rfl (by kernel_rfl) (fun _ _ _ h => h) rfl ?yz6_30 ?rz6_30
              case yz6_30 => ((intro wz; go_simp); try with_reducible rfl)
              try simp only [Act.put, List.setIfInBounds_toArray, List.set_cons_zero, List.set_cons_succ]
              refine wpT_done (by kernel_rfl) ?_ _
              go_wp2
              go_ret
              exact ⟨rfl, BF.out⟩
            · go_simp
              have SF128 : Hid (Scr ((W104.alloc (.cells #[.int .i64 8, .int .i64 0, .int .i64 0, .int .i64 i, .int .i64 0, .int .i64 0, .int .i64 0, .string ⟨#[]⟩] 29)).alloc (.cells #[.int .i64 10, .int .i64 0, .int .i64 0, .int .i64 i, .int .i64 i1, .int .i64 0, .int .i64 0, .string ⟨#[]⟩] 29)) (.slice y1 ns.length y2) ns) := SF108.out.later (below1 _ _)
              have SF129 : Hid (Scr ((W104.alloc (.cells #[.int .i64 8, .int .i64 0, .int .i64 0, .int .i64 i, .int .i64 0, .int .i64 0, .int .i64 0, .string ⟨#[]⟩] 29)).alloc (.cells #[.int .i64 10, .int .i64 0, .int .i64 0, .int .i64 i, .int .i64 i1, .int .i64 0, .int .i64 0, .string ⟨#[]⟩] 29)) (.slice (some ⟨W104.heap.size, 0, none⟩) 1 1) [cMv 8 i 0]) := SF109.out.later (below1 _ _)
              have SF130 : Hid (Scr ((W104.alloc (.cells #[.int .i64 8, .int .i64 0, .int .i64 0, .int .i64 i, .int .i64 0, .int .i64 0, .int .i64 0, .string ⟨#[]⟩] 29)).alloc (.cells #[.int .i64 10, .int .i64 0, .int .i64 0, .int .i64 i, .int .i64 i1, .int .i64 0, .int .i64 0, .string ⟨#[]⟩] 29)) (.slice (some ⟨W104.heap.size + 1, 0, none⟩) 1 1) [cMv 10 i i1]) := scr_lit (W104.alloc (.cells #[.int .i64 8, .int .i64 0, .int .i64 0, .int .i64 i, .int .i64 0, .int .i64 0, .int .i64 0, .string ⟨#[]⟩] 29)) [cMv 10 i i1] 29 (W104.heap.size + 1) 1 (by simp) rfl (by simp [cMv]; exact vl_zero_ok)
              refine ⟨cond_keep (by decide) (HSW.out _ (HB105.out.trans ((below2 W104 _ _).mono HB105.out.size))), ?_⟩
              refine wpT_runG (i := 21) (by kernel_rfl) rfl rfl ?_
              go_simp
              refine (with_c (ns := ns) (cl := [cMv 8 i 0]) (l := l) SF128.out SF129.out ⟨_, _, _, rfl⟩ (by simp; omega)).mono ?_
              rintro r W131 ⟨va132, rfl, sa133, hb134⟩
              have HB135 := Lib.hid ((HB105.out.trans ((below2 W104 _ _).mono HB105.out.size)).trans (hb134.mono ((HB105.out.trans ((below2 W104 _ _).mono HB105.out.size))).size))
              have SF136 : Hid (Scr W131 (.slice y1 ns.length y2) ns) := SF128.out.later hb134
              have SF137 : Hid (Scr W131 (.slice (some ⟨W104.heap.size + 1, 0, none⟩) 1 1) [cMv 10 i i1]) := SF130.out.later hb134
              have SF138 := Lib.hid sa133
              clear sa133 hb134
              refine ⟨cond_keep (by decide) (HSW.out _ HB135.out), ?_⟩
              refine wpT_runG (i := 27) (by kernel_rfl) rfl rfl ?_
              go_simp
              refine (with_c (ns := ns) (cl := [cMv 10 i i1]) (l := l) SF136.out SF137.out ⟨_, _, _, rfl⟩ (by simp; omega)).mono ?_
              rintro r W139 ⟨va140, rfl, sa141, hb142⟩
              have HB143 := Lib.hid ((HB135.out.trans ((Below.refl _ W131).mono HB135.out.size)).trans (hb142.mono ((HB135.out.trans ((Below.refl _ W131).mono HB135.out.size))).size))
              have SF144 : Hid (Scr W139 (.slice y1 ns.length y2) ns) := SF136.out.later hb142
              have SF145 : Hid (Scr W139 (va132) (ns ++ [cMv 8 i 0].map (onL l))) := SF138.out.later hb142
              have SF146 := Lib.hid sa141
              clear sa141 hb142
              refine ⟨cond_keep (by decide) (HSW.out _ HB143.out), ?_⟩
              refine wpT_runG (i := 28) (by kernel_rfl) rfl rfl ?_
              go_simp
              refine (alike_c SF144.out SF145.out SF146.out D1.out D2.out (HL.out _) (HL.out _) (fun k _ => D3.out k) (by decide) (by omega) (by simp; omega) (by simp; omega)).mono ?_
              rintro r wf ⟨rfl, hbf⟩
              refine ⟨cond_keep (by decide) (HSW.out _ (HB143.out.trans (hbf.mono HB143.out.size))), ?_⟩
              have BF := Lib.hid (B3.out.trans ((HB143.out.trans (hbf.mono HB143.out.size)).mono B3.out.size))
              clear hbf
              refine wpT_takeG (i := 29) (v := ?vz7_29) rfl (by kernel_rfl) (fun _ _ _ h => h) rfl ?yz7_29 ?rz7_29
              case yz7_29 => ((intro wz; go_simp); try with_reducible rfl)
              try simp only [Act.put, List.setIfInBounds_toArray, List.set_cons_zero, List.set_cons_succ]
              refine wpT_takeG (i := 30) (v := ?vz7_30) rfl (by kernel_rfl) (fun _ _ _ h => h) rfl ?yz7_30 ?rz7_30
              case yz7_30 => ((intro wz; go_simp); try with_reducible rfl)
              try simp only [Act.put, List.setIfInBounds_toArray, List.set_cons_zero, List.set_cons_succ]
              refine wpT_done (by kernel_rfl) ?_ _
              go_wp2
              go_ret
              exact ⟨rfl, BF.out⟩
          · go_simp
            have SF147 : Hid (Scr (W104.alloc (.cells #[.int .i64 10, .int .i64 0, .int .i64 0, .int .i64 i, .int .i64 i1, .int .i64 0, .int .i64 0, .string ⟨#[]⟩] 29)) (.slice y1 ns.length y2) ns) := SF107.out.later (below1 _ _)
            have SF148 : Hid (Scr (W104.alloc (.cells #[.int .i64 10, .int .i64 0, .int .i64 0, .int .i64 i, .int .i64 i1, .int .i64 0, .int .i64 0, .string ⟨#[]⟩] 29)) (.slice (some ⟨W104.heap.size, 0, none⟩) 1 1) [cMv 10 i i1]) := scr_lit W104 [cMv 10 i i1] 29 (W104.heap.size) 1 (by simp) rfl (by simp [cMv]; exact vl_zero_ok)
            refine ⟨cond_keep (by decide) (HSW.out _ (HB105.out.trans ((below1 W104 _).mono HB105.out.size))), ?_⟩
            refine wpT_runG (i := 20) (by kernel_rfl) rfl rfl ?_
            go_simp
            have SF149 : Hid (Scr ((W104.alloc (.cells #[.int .i64 10, .int .i64 0, .int .i64 0, .int .i64 i, .int .i64 i1, .int .i64 0, .int .i64 0, .string ⟨#[]⟩] 29)).alloc (.cells #[.int .i64 8, .int .i64 0, .int .i64 0, .int .i64 i, .int .i64 0, .int .i64 0, .int .i64 0, .string ⟨#[]⟩] 29)) (.slice y1 ns.length y2) ns) := SF147.out.later (below1 _ _)
            have SF150 : Hid (Scr ((W104.alloc (.cells #[.int .i64 10, .int .i64 0, .int .i64 0, .int .i64 i, .int .i64 i1, .int .i64 0, .int .i64 0, .string ⟨#[]⟩] 29)).alloc (.cells #[.int .i64 8, .int .i64 0, .int .i64 0, .int .i64 i, .int .i64 0, .int .i64 0, .int .i64 0, .string ⟨#[]⟩] 29)) (.slice (some ⟨W104.heap.size, 0, none⟩) 1 1) [cMv 10 i i1]) := SF148.out.later (below1 _ _)
            have SF151 : Hid (Scr ((W104.alloc (.cells #[.int .i64 10, .int .i64 0, .int .i64 0, .int .i64 i, .int .i64 i1, .int .i64 0, .int .i64 0, .string ⟨#[]⟩] 29)).alloc (.cells #[.int .i64 8, .int .i64 0, .int .i64 0, .int .i64 i, .int .i64 0, .int .i64 0, .int .i64 0, .string ⟨#[]⟩] 29)) (.slice (some ⟨W104.heap.size + 1, 0, none⟩) 1 1) [cMv 8 i 0]) := scr_lit (W104.alloc (.cells #[.int .i64 10, .int .i64 0, .int .i64 0, .int .i64 i, .int .i64 i1, .int .i64 0, .int .i64 0, .string ⟨#[]⟩] 29)) [cMv 8 i 0] 29 (W104.heap.size + 1) 1 (by simp) rfl (by simp [cMv]; exact vl_zero_ok)
            refine ⟨cond_keep (by decide) (HSW.out _ (HB105.out.trans ((below2 W104 _ _).mono HB105.out.size))), ?_⟩
            refine wpT_runG (i := 21) (by kernel_rfl) rfl rfl ?_
            go_simp
            refine (with_c (ns := ns) (cl := [cMv 8 i 0]) (l := l) SF149.out SF151.out ⟨_, _, _, rfl⟩ (by simp; omega)).mono ?_
            rintro r W152 ⟨va153, rfl, sa154, hb155⟩
            have HB156 := Lib.hid ((HB105.out.trans ((below2 W104 _ _).mono HB105.out.size)).trans (hb155.mono ((HB105.out.trans ((below2 W104 _ _).mono HB105.out.size))).size))
            have SF157 : Hid (Scr W152 (.slice y1 ns.length y2) ns) := SF149.out.later hb155
            have SF158 : Hid (Scr W152 (.slice (some ⟨W104.heap.size, 0, none⟩) 1 1) [cMv 10 i i1]) := SF150.out.later hb155
            have SF159 := Lib.hid sa154
            clear sa154 hb155
            refine ⟨cond_keep (by decide) (HSW.out _ HB156.out), ?_⟩
            refine wpT_runG (i := 27) (by kernel_rfl) rfl rfl ?_
            go_simp
            refine (with_c (ns := ns) (cl := [cMv 10 i i1]) (l := l) SF157.out SF158.out ⟨_, _, _, rfl⟩ (by simp; omega)).mono ?_
            rintro r W160 ⟨va161, rfl, sa162, hb163⟩
            have HB164 := Lib.hid ((HB156.out.trans ((Below.refl _ W152).mono HB156.out.size)).trans (hb163.mono ((HB156.out.trans ((Below.refl _ W152).mono HB156.out.size))).size))
            have SF165 : Hid (Scr W160 (.slice y1 ns.length y2) ns) := SF157.out.later hb163
            have SF166 : Hid (Scr W160 (va153) (ns ++ [cMv 8 i 0].map (onL l))) := SF159.out.later hb163
            have SF167 := Lib.hid sa162
            clear sa162 hb163
            refine ⟨cond_keep (by decide) (HSW.out _ HB164.out), ?_⟩
            refine wpT_runG (i := 28) (by kernel_rfl) rfl rfl ?_
            go_simp
            refine (alike_c SF165.out SF166.out SF167.out D1.out D2.out (HL.out _) (HL.out _) (fun k _ => D3.out k) (by decide) (by omega) (by simp; omega) (by simp; omega)).mono ?_
            rintro r wf ⟨rfl, hbf⟩
            refine ⟨cond_keep (by decide) (HSW.out _ (HB164.out.trans (hbf.mono HB164.out.size))), ?_⟩
            have BF := Lib.hid (B3.out.trans ((HB164.out.trans (hbf.mono HB164.out.size)).mono B3.out.size))
            clear hbf
            refine wpT_takeG (i := 29) (v := ?vz8_29) rfl (by kernel_rfl) (fun _ _ _ h => h) rfl ?yz8_29 ?rz8_29
            case yz8_29 => ((intro wz; go_simp); try with_reducible rfl)
            try simp only [Act.put, List.setIfInBounds_toArray, List.set_cons_zero, List.set_cons_succ]
            refine wpT_takeG (i := 30) (v := ?vz8_30) rfl (by kernel_rfl) (fun _ _ _ h => h) rfl ?yz8_30 ?rz8_30
            case yz8_30 => ((intro wz; go_simp); try with_reducible rfl)
            try simp only [Act.put, List.setIfInBounds_toArray, List.set_cons_zero, List.set_cons_succ]
            refine wpT_done (by kernel_rfl) ?_ _
            go_wp2
            go_ret
            exact ⟨rfl, BF.out⟩
      · go_simp
        have SF168 : Hid (Scr (w3.alloc (.cells #[.int .i64 9, .int .i64 0, .int .i64 0, .int .i64 i, .int .i64 i0, .int .i64 0, .int .i64 0, .string ⟨#[]⟩] 29)) (.slice y1 ns.length y2) ns) := S3.out.later (below1 _ _)
        have SF169 : Hid (Scr (w3.alloc (.cells #[.int .i64 9, .int .i64 0, .int .i64 0, .int .i64 i, .int .i64 i0, .int .i64 0, .int .i64 0, .string ⟨#[]⟩] 29)) (.slice (some ⟨w3.heap.size, 0, none⟩) 1 1) [cMv 9 i i0]) := scr_lit w3 [cMv 9 i i0] 29 (w3.heap.size) 1 (by simp) rfl (by simp [cMv]; exact vl_zero_ok)
        refine ⟨cond_keep (by decide) (HSW.out _ (HB0.out.trans ((below1 w3 _).mono HB0.out.size))), ?_⟩
        refine wpT_runG (i := 5) (by kernel_rfl) rfl rfl ?_
        go_simp
        have SF170 : Hid (Scr ((w3.alloc (.cells #[.int .i64 9, .int .i64 0, .int .i64 0, .int .i64 i, .int .i64 i0, .int .i64 0, .int .i64 0, .string ⟨#[]⟩] 29)).alloc (.cells #[.int .i64 7, .int .i64 0, .int .i64 0, .int .i64 i, .int .i64 0, .int .i64 0, .int .i64 0, .string ⟨#[]⟩] 29)) (.slice y1 ns.length y2) ns) := SF168.out.later (below1 _ _)
        have SF171 : Hid (Scr ((w3.alloc (.cells #[.int .i64 9, .int .i64 0, .int .i64 0, .int .i64 i, .int .i64 i0, .int .i64 0, .int .i64 0, .string ⟨#[]⟩] 29)).alloc (.cells #[.int .i64 7, .int .i64 0, .int .i64 0, .int .i64 i, .int .i64 0, .int .i64 0, .int .i64 0, .string ⟨#[]⟩] 29)) (.slice (some ⟨w3.heap.size, 0, none⟩) 1 1) [cMv 9 i i0]) := SF169.out.later (below1 _ _)
        have SF172 : Hid (Scr ((w3.alloc (.cells #[.int .i64 9, .int .i64 0, .int .i64 0, .int .i64 i, .int .i64 i0, .int .i64 0, .int .i64 0, .string ⟨#[]⟩] 29)).alloc (.cells #[.int .i64 7, .int .i64 0, .int .i64 0, .int .i64 i, .int .i64 0, .int .i64 0, .int .i64 0, .string ⟨#[]⟩] 29)) (.slice (some ⟨w3.heap.size + 1, 0, none⟩) 1 1) [cMv 7 i 0]) := scr_lit (w3.alloc (.cells #[.int .i64 9, .int .i64 0, .int .i64 0, .int .i64 i, .int .i64 i0, .int .i64 0, .int .i64 0, .string ⟨#[]⟩] 29)) [cMv 7 i 0] 29 (w3.heap.size + 1) 1 (by simp) rfl (by simp [cMv]; exact vl_zero_ok)
        refine ⟨cond_keep (by decide) (HSW.out _ (HB0.out.trans ((below2 w3 _ _).mono HB0.out.size))), ?_⟩
        refine wpT_runG (i := 6) (by kernel_rfl) rfl rfl ?_
        go_simp
        refine (with_c (ns := ns) (cl := [cMv 7 i 0]) (l := l) SF170.out SF172.out ⟨_, _, _, rfl⟩ (by simp; omega)).mono ?_
        rintro r W173 ⟨va174, rfl, sa175, hb176⟩
        have HB177 := Lib.hid ((HB0.out.trans ((below2 w3 _ _).mono HB0.out.size)).trans (hb176.mono ((HB0.out.trans ((below2 w3 _ _).mono HB0.out.size))).size))
        have SF178 : Hid (Scr W173 (.slice y1 ns.length y2) ns) := SF170.out.later hb176
        have SF179 : Hid (Scr W173 (.slice (some ⟨w3.heap.size, 0, none⟩) 1 1) [cMv 9 i i0]) := SF171.out.later hb176
        have SF180 := Lib.hid sa175
        clear sa175 hb176
        refine ⟨cond_keep (by decide) (HSW.out _ HB177.out), ?_⟩
        refine wpT_runG (i := 12) (by kernel_rfl) rfl rfl ?_
        go_simp
        refine (with_c (ns := ns) (cl := [cMv 9 i i0]) (l := l) SF178.out SF179.out ⟨_, _, _, rfl⟩ (by simp; omega)).mono ?_
        rintro r W181 ⟨va182, rfl, sa183, hb184⟩
        have HB185 := Lib.hid ((HB177.out.trans ((Below.refl _ W173).mono HB177.out.size)).trans (hb184.mono ((HB177.out.trans ((Below.refl _ W173).mono HB177.out.size))).size))
        have SF186 : Hid (Scr W181 (.slice y1 ns.length y2) ns) := SF178.out.later hb184
        have SF187 : Hid (Scr W181 (va174) (ns ++ [cMv 7 i 0].map (onL l))) := SF180.out.later hb184
        have SF188 := Lib.hid sa183
        clear sa183 hb184
        refine ⟨cond_keep (by decide) (HSW.out _ HB185.out), ?_⟩
        refine wpT_runG (i := 13) (by kernel_rfl) rfl rfl ?_
        go_simp
        refine (alike_c SF186.out SF187.out SF188.out A1.out A2.out (HL.out _) (HL.out _) (fun k _ => A3.out k) (by decide) (by omega) (by simp; omega) (by simp; omega)).mono ?_
        rintro r W189 ⟨rfl, hb191⟩
        have HB190 := Lib.hid (HB185.out.trans (hb191.mono HB185.out.size))
        have SF192 : Hid (Scr W189 (.slice y1 ns.length y2) ns) := SF186.out.later hb191
        refine ⟨cond_keep (by decide) (HSW.out _ HB190.out), ?_⟩
        clear hb191
        refine wpT_takeG (i := 14) (v := ?vm9_14) rfl (by kernel_rfl) (fun _ _ _ h => h) rfl ?ym9_14 ?rm9_14
        case ym9_14 => ((intro wz; go_simp); try with_reducible rfl)
        try simp only [Act.put, List.setIfInBounds_toArray, List.set_cons_zero, List.set_cons_succ]
        refine wpT_takeG (i := 15) (v := ?vm9_15) rfl (by kernel_rfl) (fun _ _ _ h => h) rfl ?ym9_15 ?rm9_15
        case ym9_15 => ((intro wz; go_simp); try with_reducible rfl)
        try simp only [Act.put, List.setIfInBounds_toArray, List.set_cons_zero, List.set_cons_succ]
        refine wpT_loadG (i := 16) (v := ?vm9_16) rfl (by kernel_rfl) (fun _ _ _ h => h) rfl ?ym9_16 (HSW.out _ HB190.out) ?rm9_16
        case ym9_16 => ((intro wz hSw; (try dsimp only at hSw); go_split_ands; go_simp); try with_reducible rfl)
        try simp only [Act.put, List.setIfInBounds_toArray, List.set_cons_zero, List.set_cons_succ]
        refine wpT_loadG (i := 17) (v := ?vm9_17) rfl (by kernel_rfl) (fun _ _ _ h => h) rfl ?ym9_17 (HSW.out _ HB190.out) ?rm9_17
        case ym9_17 => ((intro wz hSw; (try dsimp only at hSw); go_split_ands; go_simp); try with_reducible rfl)
        try simp only [Act.put, List.setIfInBounds_toArray, List.set_cons_zero, List.set_cons_succ]
        refine wpT_takeG (i := 18) (v := ?vm9_18) rfl (by kernel_rfl) (fun _ _ _ h => h) rfl ?ym9_18 ?rm9_18
        case ym9_18 => ((intro wz; go_simp); try with_reducible rfl)
        try simp only [Act.put, List.setIfInBounds_toArray, List.set_cons_zero, List.set_cons_succ]
        refine wpT_takeG (i := 19) (v := ?vm9_19) rfl (by kernel_rfl) (fun _ _ _ h => h) rfl ?ym9_19 ?rm9_19
        case ym9_19 => ((intro wz; go_simp); try with_reducible rfl)
        try simp only [Act.put, List.setIfInBounds_toArray, List.set_cons_zero, List.set_cons_succ]
        refine wpT_loadG (i := 22) (v := ?vm9_22) rfl (by kernel_rfl) (fun _ _ _ h => h) rfl ?ym9_22 (HSW.out _ HB190.out) ?rm9_22
        case ym9_22 => ((intro wz hSw; (try dsimp only at hSw); go_split_ands; go_simp); try with_reducible rfl)
        try simp only [Act.put, List.setIfInBounds_toArray, List.set_cons_zero, List.set_cons_succ]
        refine wpT_takeG (i := 23) (v := ?vm9_23) rfl (by kernel_rfl) (fun _ _ _ h => h) rfl ?ym9_23 ?rm9_23
        case ym9_23 => ((intro wz; go_simp); try with_reducible rfl)
        try simp only [Act.put, List.setIfInBounds_toArray, List.set_cons_zero, List.set_cons_succ]
        refine wpT_takeG (i := 24) (v := ?vm9_24) rfl (by kernel_rfl) (fun _ _ _ h => h) rfl ?ym9_24 ?rm9_24
        case ym9_24 => ((intro wz; go_simp); try with_reducible rfl)
        try simp only [Act.put, List.setIfInBounds_toArray, List.set_cons_zero, List.set_cons_succ]
        refine wpT_takeG (i := 25) (v := ?vm9_25) rfl (by kernel_rfl) (fun _ _ _ h => h) rfl ?ym9_25 ?rm9_25
        case ym9_25 => ((intro wz; go_simp); try with_reducible rfl)
        try simp only [Act.put, List.setIfInBounds_toArray, List.set_cons_zero, List.set_cons_succ]
        refine wpT_two (i := 20) (j := 26) (by kernel_rfl) rfl rfl rfl rfl ?_ ?_
        · go_simp
          have SF193 : Hid (Scr (W189.alloc (.cells #[.int .i64 8, .int .i64 0, .int .i64 0, .int .i64 i, .int .i64 0, .int .i64 0, .int .i64 0, .string ⟨#[]⟩] 29)) (.slice y1 ns.length y2) ns) := SF192.out.later (below1 _ _)
          have SF194 : Hid (Scr (W189.alloc (.cells #[.int .i64 8, .int .i64 0, .int .i64 0, .int .i64 i, .int .i64 0, .int .i64 0, .int .i64 0, .string ⟨#[]⟩] 29)) (.slice (some ⟨W189.heap.size, 0, none⟩) 1 1) [cMv 8 i 0]) := scr_lit W189 [cMv 8 i 0] 29 (W189.heap.size) 1 (by simp) rfl (by simp [cMv]; exact vl_zero_ok)
          refine ⟨cond_keep (by decide) (HSW.out _ (HB190.out.trans ((below1 W189 _).mono HB190.out.size))), ?_⟩
          refine wpT_two (i := 21) (j := 26) (by kernel_rfl) rfl rfl rfl rfl ?_ ?_
          · go_simp
            refine (with_c (ns := ns) (cl := [cMv 8 i 0]) (l := l) SF193.out SF194.out ⟨_, _, _, rfl⟩ (by simp; omega)).mono ?_
            rintro r W195 ⟨va196, rfl, sa197, hb198⟩
            have HB199 := Lib.hid ((HB190.out.trans ((below1 W189 _).mono HB190.out.size)).trans (hb198.mono ((HB190.out.trans ((below1 W189 _).mono HB190.out.size))).size))
            have SF200 : Hid (Scr W195 (.slice y1 ns.length y2) ns) := SF193.out.later hb198
            have SF201 := Lib.hid sa197
            clear sa197 hb198
            refine ⟨cond_keep (by decide) (HSW.out _ HB199.out), ?_⟩
            refine wpT_runG (i := 26) (by kernel_rfl) rfl rfl ?_
            go_simp
            have SF202 : Hid (Scr (W195.alloc (.cells #[.int .i64 10, .int .i64 0, .int .i64 0, .int .i64 i, .int .i64 i1, .int .i64 0, .int .i64 0, .string ⟨#[]⟩] 29)) (.slice y1 ns.length y2) ns) := SF200.out.later (below1 _ _)
            have SF203 : Hid (Scr (W195.alloc (.cells #[.int .i64 10, .int .i64 0, .int .i64 0, .int .i64 i, .int .i64 i1, .int .i64 0, .int .i64 0, .string ⟨#[]⟩] 29)) (va196) (ns ++ [cMv 8 i 0].map (onL l))) := SF201.out.later (below1 _ _)
            have SF204 : Hid (Scr (W195.alloc (.cells #[.int .i64 10, .int .i64 0, .int .i64 0, .int .i64 i, .int .i64 i1, .int .i64 0, .int .i64 0, .string ⟨#[]⟩] 29)) (.slice (some ⟨W195.heap.size, 0, none⟩) 1 1) [cMv 10 i i1]) := scr_lit W195 [cMv 10 i i1] 29 (W195.heap.size) 1 (by simp) rfl (by simp [cMv]; exact vl_zero_ok)
            refine ⟨cond_keep (by decide) (HSW.out _ (HB199.out.trans ((below1 W195 _).mono HB199.out.size))), ?_⟩
            refine wpT_runG (i := 27) (by kernel_rfl) rfl rfl ?_
            go_simp
            refine (with_c (ns := ns) (cl := [cMv 10 i i1]) (l := l) SF202.out SF204.out ⟨_, _, _, rfl⟩ (by simp; omega)).mono ?_
            rintro r W205 ⟨va206, rfl, sa207, hb208⟩
            have HB209 := Lib.hid ((HB199.out.trans ((below1 W195 _).mono HB199.out.size)).trans (hb208.mono ((HB199.out.trans ((below1 W195 _).mono HB199.out.size))).size))
            have SF210 : Hid (Scr W205 (.slice y1 ns.length y2) ns) := SF202.out.later hb208
            have SF211 : Hid (Scr W205 (va196) (ns ++ [cMv 8 i 0].map (onL l))) := SF203.out.later hb208
            have SF212 := Lib.hid sa207
            clear sa207 hb208
            refine ⟨cond_keep (by decide) (HSW.out _ HB209.out), ?_⟩
            refine wpT_runG (i := 28) (by kernel_rfl) rfl rfl ?_
            go_simp
            refine (alike_c SF210.out SF211.out SF212.out D1.out D2.out (HL.out _) (HL.out _) (fun k _ => D3.out k) (by decide) (by omega) (by simp; omega) (by simp; omega)).mono ?_
            rintro r wf ⟨rfl, hbf⟩
            refine ⟨cond_keep (by decide) (HSW.out _ (HB209.out.trans (hbf.mono HB209.out.size))), ?_⟩
            have BF := Lib.hid (B3.out.trans ((HB209.out.trans (hbf.mono HB209.out.size)).mono B3.out.size))
            clear hbf
            refine wpT_takeG (i := 29) (v := ?vz10_29) rfl (by kernel_rfl) (fun _ _ _ h => h) rfl ?yz10_29 ?rz10_29
            case yz10_29 => ((intro wz; go_simp); try with_reducible rfl)
            try simp only [Act.put, List.setIfInBounds_toArray, List.set_cons_zero, List.set_cons_succ]
            refine wpT_takeG (i := 30) (v := ?vz10_30) rfl (by kernel_rfl) (fun _ _ _ h => h) rfl ?yz10_30 ?rz10_30
            case yz10_30 => ((intro wz; go_simp); try with_reducible rfl)
            try simp only [Act.put, List.setIfInBounds_toArray, List.set_cons_zero, List.set_cons_succ]
            refine wpT_done (by kernel_rfl) ?_ _
            go_wp2
            go_ret
            exact ⟨rfl, BF.out⟩
          · go_simp
            have SF213 : Hid (Scr ((W189.alloc (.cells #[.int .i64 8, .int .i64 0, .int .i64 0, .int .i64 i, .int .i64 0, .int .i64 0, .int .i64 0, .string ⟨#[]⟩] 29)).alloc (.cells #[.int .i64 10, .int .i64 0, .int .i64 0, .int .i64 i, .int .i64 i1, .int .i64 0, .int .i64 0, .string ⟨#[]⟩] 29)) (.slice y1 ns.length y2) ns) := SF193.out.later (below1 _ _)
            have SF214 : Hid (Scr ((W189.alloc (.cells #[.int .i64 8, .int .i64 0, .int .i64 0, .int .i64 i, .int .i64 0, .int .i64 0, .int .i64 0, .string ⟨#[]⟩] 29)).alloc (.cells #[.int .i64 10, .int .i64 0, .int .i64 0, .int .i64 i, .int .i64 i1, .int .i64 0, .int .i64 0, .string ⟨#[]⟩] 29)) (.slice (some ⟨W189.heap.size, 0, none⟩) 1 1) [cMv 8 i 0]) := SF194.out.later (below1 _ _)
            have SF215 : Hid (Scr ((W189.alloc (.cells #[.int .i64 8, .int .i64 0, .int .i64 0, .int .i64 i, .int .i64 0, .int .i64 0, .int .i64 0, .string ⟨#[]⟩] 29)).alloc (.cells #[.int .i64 10, .int .i64 0, .int .i64 0, .int .i64 i, .int .i64 i1, .int .i64 0, .int .i64 0, .string ⟨#[]⟩] 29)) (.slice (some ⟨W189.heap.size + 1, 0, none⟩) 1 1) [cMv 10 i i1]) := scr_lit (W189.alloc (.cells #[.int .i64 8, .int .i64 0, .int .i64 0, .int .i64 i, .int .i64 0, .int .i64 0, .int .i64 0, .string ⟨#[]⟩] 29)) [cMv 10 i i1] 29 (W189.heap.size + 1) 1 (by simp) rfl (by simp [cMv]; exact vl_zero_ok)
            refine ⟨cond_keep (by decide) (HSW.out _ (HB190.out.trans ((below2 W189 _ _).mono HB190.out.size))), ?_⟩
            refine wpT_runG (i := 21) (by kernel_rfl) rfl rfl ?_
            go_simp
            refine (with_c (ns := ns) (cl := [cMv 8 i 0]) (l := l) SF213.out SF214.out ⟨_, _, _, rfl⟩ (by simp; omega)).mono ?_
            rintro r W216 ⟨va217, rfl, sa218, hb219⟩
            have HB220 := Lib.hid ((HB190.out.trans ((below2 W189 _ _).mono HB190.out.size)).trans (hb219.mono ((HB190.out.trans ((below2 W189 _ _).mono HB190.out.size))).size))
            have SF221 : Hid (Scr W216 (.slice y1 ns.length y2) ns) := SF213.out.later hb219
            have SF222 : Hid (Scr W216 (.slice (some ⟨W189.heap.size + 1, 0, none⟩) 1 1) [cMv 10 i i1]) := SF215.out.later hb219
            have SF223 := Lib.hid sa218
            clear sa218 hb219
            refine ⟨cond_keep (by decide) (HSW.out _ HB220.out), ?_⟩
            refine wpT_runG (i := 27) (by kernel_rfl) rfl rfl ?_
            go_simp
            refine (with_c (ns := ns) (cl := [cMv 10 i i1]) (l := l) SF221.out SF222.out ⟨_, _, _, rfl⟩ (by simp; omega)).mono ?_
            rintro r W224 ⟨va225, rfl, sa226, hb227⟩
            have HB228 := Lib.hid ((HB220.out.trans ((Below.refl _ W216).mono HB220.out.size)).trans (hb227.mono ((HB220.out.trans ((Below.refl _ W216).mono HB220.out.size))).size))
            have SF229 : Hid (Scr W224 (.slice y1 ns.length y2) ns) := SF221.out.later hb227
            have SF230 : Hid (Scr W224 (va217) (ns ++ [cMv 8 i 0].map (onL l))) := SF223.out.later hb227
            have SF231 := Lib.hid sa226
            clear sa226 hb227
            refine ⟨cond_keep (by decide) (HSW.out _ HB228.out), ?_⟩
            refine wpT_runG (i := 28) (by kernel_rfl) rfl rfl ?_
            go_simp
            refine (alike_c SF229.out SF230.out SF231.out D1.out D2.out (HL.out _) (HL.out _) (fun k _ => D3.out k) (by decide) (by omega) (by simp; omega) (by simp; omega)).mono ?_
            rintro r wf ⟨rfl, hbf⟩
            refine ⟨cond_keep (by decide) (HSW.out _ (HB228.out.trans (hbf.mono HB228.out.size))), ?_⟩
            have BF := Lib.hid (B3.out.trans ((HB228.out.trans (hbf.mono HB228.out.size)).mono B3.out.size))
            clear hbf
            refine wpT_takeG (i := 29) (v := ?vz11_29) rfl (by kernel_rfl) (fun _ _ _ h => h) rfl ?yz11_29 ?rz11_29
            case yz11_29 => ((intro wz; go_simp); try with_reducible rfl)
            try simp only [Act.put, List.setIfInBounds_toArray, List.set_cons_zero, List.set_cons_succ]
            refine wpT_takeG (i := 30) (v := ?vz11_30) rfl (by kernel_rfl) (fun _ _ _ h => h) rfl ?yz11_30 ?rz11_30
            case yz11_30 => ((intro wz; go_simp); try with_reducible rfl)
            try simp only [Act.put, List.setIfInBounds_toArray, List.set_cons_zero, List.set_cons_succ]
            refine wpT_done (by kernel_rfl) ?_ _
            go_wp2
            go_ret
            exact ⟨rfl, BF.out⟩
        · go_simp
          have SF232 : Hid (Scr (W189.alloc (.cells #[.int .i64 10, .int .i64 0, .int .i64 0, .int .i64 i, .int .i64 i1, .int .i64 0, .int .i64 0, .string ⟨#[]⟩] 29)) (.slice y1 ns.length y2) ns) := SF192.out.later (below1 _ _)
          have SF233 : Hid (Scr (W189.alloc (.cells #[.int .i64 10, .int .i64 0, .int .i64 0, .int .i64 i, .int .i64 i1, .int .i64 0, .int .i64 0, .string ⟨#[]⟩] 29)) (.slice (some ⟨W189.heap.size, 0, none⟩) 1 1) [cMv 10 i i1]) := scr_lit W189 [cMv 10 i i1] 29 (W189.heap.size) 1 (by simp) rfl (by simp [cMv]; exact vl_zero_ok)
          refine ⟨cond_keep (by decide) (HSW.out _ (HB190.out.trans ((below1 W189 _).mono HB190.out.size))), ?_⟩
          refine wpT_runG (i := 20) (by kernel_rfl) rfl rfl ?_
          go_simp
          have SF234 : Hid (Scr ((W189.alloc (.cells #[.int .i64 10, .int .i64 0, .int .i64 0, .int .i64 i, .int .i64 i1, .int .i64 0, .int .i64 0, .string ⟨#[]⟩] 29)).alloc (.cells #[.int .i64 8, .int .i64 0, .int .i64 0, .int .i64 i, .int .i64 0, .int .i64 0, .int .i64 0, .string ⟨#[]⟩] 29)) (.slice y1 ns.length y2) ns) := SF232.out.later (below1 _ _)
          have SF235 : Hid (Scr ((W189.alloc (.cells #[.int .i64 10, .int .i64 0, .int .i64 0, .int .i64 i, .int .i64 i1, .int .i64 0, .int .i64 0, .string ⟨#[]⟩] 29)).alloc (.cells #[.int .i64 8, .int .i64 0, .int .i64 0, .int .i64 i, .int .i64 0, .int .i64 0, .int .i64 0, .string ⟨#[]⟩] 29)) (.slice (some ⟨W189.heap.size, 0, none⟩) 1 1) [cMv 10 i i1]) := SF233.out.later (below1 _ _)
          have SF236 : Hid (Scr ((W189.alloc (.cells #[.int .i64 10, .int .i64 0, .int .i64 0, .int .i64 i, .int .i64 i1, .int .i64 0, .int .i64 0, .string ⟨#[]⟩] 29)).alloc (.cells #[.int .i64 8, .int .i64 0, .int .i64 0, .int .i64 i, .int .i64 0, .int .i64 0, .int .i64 0, .string ⟨#[]⟩] 29)) (.slice (some ⟨W189.heap.size + 1, 0, none⟩) 1 1) [cMv 8 i 0]) := scr_lit (W189.alloc (.cells #[.int .i64 10, .int .i64 0, .int .i64 0, .int .i64 i, .int .i64 i1, .int .i64 0, .int .i64 0, .string ⟨#[]⟩] 29)) [cMv 8 i 0] 29 (W189.heap.size + 1) 1 (by simp) rfl (by simp [cMv]; exact vl_zero_ok)
          refine ⟨cond_keep (by decide) (HSW.out _ (HB190.out.trans ((below2 W189 _ _).mono HB190.out.size))), ?_⟩
          refine wpT_runG (i := 21) (by kernel_rfl) rfl rfl ?_
          go_simp
          refine (with_c (ns := ns) (cl := [cMv 8 i 0]) (l := l) SF234.out SF236.out ⟨_, _, _, rfl⟩ (by simp; omega)).mono ?_
          rintro r W237 ⟨va238, rfl, sa239, hb240⟩
          have HB241 := Lib.hid ((HB190.out.trans ((below2 W189 _ _).mono HB190.out.size)).trans (hb240.mono ((HB190.out.trans ((below2 W189 _ _).mono HB190.out.size))).size))
          have SF242 : Hid (Scr W237 (.slice y1 ns.length y2) ns) := SF234.out.later hb240
          have SF243 : Hid (Scr W237 (.slice (some ⟨W189.heap.size, 0, none⟩) 1 1) [cMv 10 i i1]) := SF235.out.later hb240
          have SF244 := Lib.hid sa239
          clear sa239 hb240
          refine ⟨cond_keep (by decide) (HSW.out _ HB241.out), ?_⟩
          refine wpT_runG (i := 27) (by kernel_rfl) rfl rfl ?_
          go_simp
          refine (with_c (ns := ns) (cl := [cMv 10 i i1]) (l := l) SF242.out SF243.out ⟨_, _, _, rfl⟩ (by simp; omega)).mono ?_
          rintro r W245 ⟨va246, rfl, sa247, hb248⟩
          have HB249 := Lib.hid ((HB241.out.trans ((Below.refl _ W237).mono HB241.out.size)).trans (hb248.mono ((HB241.out.trans ((Below.refl _ W237).mono HB241.out.size))).size))
          have SF250 : Hid (Scr W245 (.slice y1 ns.length y2) ns) := SF242.out.later hb248
          have SF251 : Hid (Scr W245 (va238) (ns ++ [cMv 8 i 0].map (onL l))) := SF244.out.later hb248
          have SF252 := Lib.hid sa247
          clear sa247 hb248
          refine ⟨cond_keep (by decide) (HSW.out _ HB249.out), ?_⟩
          refine wpT_runG (i := 28) (by kernel_rfl) rfl rfl ?_
          go_simp
          refine (alike_c SF250.out SF251.out SF252.out D1.out D2.out (HL.out _) (HL.out _) (fun k _ => D3.out k) (by decide) (by omega) (by simp; omega) (by simp; omega)).mono ?_
          rintro r wf ⟨rfl, hbf⟩
          refine ⟨cond_keep (by decide) (HSW.out _ (HB249.out.trans (hbf.mono HB249.out.size))), ?_⟩
          have BF := Lib.hid (B3.out.trans ((HB249.out.trans (hbf.mono HB249.out.size)).mono B3.out.size))
          clear hbf
          refine wpT_takeG (i := 29) (v := ?vz12_29) rfl (by kernel_rfl) (fun _ _ _ h => h) rfl ?yz12_29 ?rz12_29
          case yz12_29 => ((intro wz; go_simp); try with_reducible rfl)
          try simp only [Act.put, List.setIfInBounds_toArray, List.set_cons_zero, List.set_cons_succ]
          refine wpT_takeG (i := 30) (v := ?vz12_30) rfl (by kernel_rfl) (fun _ _ _ h => h) rfl ?yz12_30 ?rz12_30
          case yz12_30 => ((intro wz; go_simp); try with_reducible rfl)
          try simp only [Act.put, List.setIfInBounds_toArray, List.set_cons_zero, List.set_cons_succ]
          refine wpT_done (by kernel_rfl) ?_ _
          go_wp2
          go_ret
          exact ⟨rfl, BF.out⟩
  · have CH := Lib.hid (fun o => chosen_nil ((nil_nats w1).later (below1 w1 o)) rfl k)
    simp only [scene0]
    go_wp2_with fail
    refine (CH.out _).mono ?_
    rintro r w2 ⟨rfl, rfl⟩
    clear CH
    go_wp2
    go_ret
    exact ⟨rfl, B1.out.trans ((below1 w1 _).mono B1.out.size)⟩
end Bead
end Go.Proofs.Ytdmichkekipdpaa
