/- FnLenCounts returns true. -/
import Derived.Test.YtbpbbmamgajimaaScene2
import Derived.Test.YtbpbbmamgajimaaMoves
import Derived.Test.YtbpbbmamgajimaaLast4
import Derived.Deep.DeepCutAuto
set_option linter.all false
namespace Go.Proofs.Ytbpbbmamgajimaa
open Go.RowKit
namespace Bead
set_option maxRecDepth 100000

set_option maxHeartbeats 4000000 in
theorem has1_c {w : World} {b : Nat} {vs ve : Value} {ns : List Cl} {l i e : Nat} {L : List Nat} (BX : w.heap[b]? = some (.cells #[vs, .int .i64 (l : Nat), ve] 46 (0, 0))) (s : Scr w vs ns) (hok : okFrom 500 Md.init ns = true) (hr : (runFrom Md.init ns).ret i = some e) (hN : Nats w ve L) (hL : L.length ≤ 4611686018427387904) (hn : ns.length ≤ 549755813888) :
    Calls Try.prog 33 #[.int .i64 i, .pointer (some ⟨b, 0, none⟩)] w fun r w' => ∃ k : Nat, r = .returned (.bool (decide (k ∈ L))) ∧ (runFrom Md.init ns).fst e = some k ∧ Below w.heap.size w w' := by
  obtain ⟨y1, y2, rfl⟩ := s.form
  obtain ⟨z1, z2, rfl⟩ := hN.form
  have HSW : Hid (∀ W, Below w.heap.size w W → (fun W => W.cell? ⟨b, 0, none⟩ = some (.slice y1 ns.length y2) ∧ W.cell? ⟨b, 1, none⟩ = some (.int .i64 (l : Nat)) ∧ W.cell? ⟨b, 2, none⟩ = some (.slice z1 L.length z2)) W) := fun W hb => ⟨cell_of_heap (o := 0) (heap_later BX hb) rfl, cell_of_heap (o := 1) (heap_later BX hb) rfl, cell_of_heap (o := 2) (heap_later BX hb) rfl⟩
  have FS := Lib.hid (fun (ve : Value) (he : ∃ a n c, ve = .slice a n c) => first_c (l := l) (s.later ((Below.refl w.heap.size w).drew)) hok hr he hn)
  have CN := Lib.hid (fun W (hb : Below w.heap.size w W) k => contains_c k (hN.later hb) hL)
  clear s hok hN BX hr
  go_enter Try.func33, Try.ntmps33
  go_wp2_with fail
  refine wp_region_T (fun W => W.cell? ⟨b, 0, none⟩ = some (.slice y1 ns.length y2) ∧ W.cell? ⟨b, 1, none⟩ = some (.int .i64 (l : Nat)) ∧ W.cell? ⟨b, 2, none⟩ = some (.slice z1 L.length z2)) [4, 5] [] run_mixed ?_
  simp only [List.size_toArray, List.length_cons, List.length_nil]
  have hb0 : Below w.heap.size w w.drew := (Below.refl w.heap.size w).drew
  have HS := HSW.out w.drew hb0
  refine wpT_takeG (i := 0) (v := ?va0) rfl (by kernel_rfl) (fun _ _ _ h => h) rfl ?ya0 ?ra0
  case ya0 => ((intro wz; go_simp); try with_reducible rfl)
  try simp only [Act.put, List.setIfInBounds_toArray, List.set_cons_zero, List.set_cons_succ]
  refine wpT_loadG (i := 1) (v := ?va1) rfl (by kernel_rfl) (fun _ _ _ h => h) rfl ?ya1 HS ?ra1
  case ya1 => ((intro wz hSw; (try dsimp only at hSw); go_split_ands; go_simp); try with_reducible rfl)
  try simp only [Act.put, List.setIfInBounds_toArray, List.set_cons_zero, List.set_cons_succ]
  refine wpT_loadG (i := 2) (v := ?va2) rfl (by kernel_rfl) (fun _ _ _ h => h) rfl ?ya2 HS ?ra2
  case ya2 => ((intro wz hSw; (try dsimp only at hSw); go_split_ands; go_simp); try with_reducible rfl)
  try simp only [Act.put, List.setIfInBounds_toArray, List.set_cons_zero, List.set_cons_succ]
  refine wpT_takeG (i := 3) (v := ?va3) rfl (by kernel_rfl) (fun _ _ _ h => h) rfl ?ya3 ?ra3
  case ya3 => ((intro wz; go_simp); try with_reducible rfl)
  try simp only [Act.put, List.setIfInBounds_toArray, List.set_cons_zero, List.set_cons_succ]
  refine wpT_runG (i := 4) (by kernel_rfl) rfl rfl ?_
  go_simp
  refine (FS.out _ ⟨_, _, _, rfl⟩).mono ?_
  rintro r w4 ⟨k, rfl, hk, hb4⟩
  have hb5 : Below w.heap.size w w4 := hb0.trans hb4
  have B5 := Lib.hid hb5; have HK := Lib.hid hk
  clear hb4 hk hb0
  refine ⟨cond_keep (by decide) (HSW.out _ hb5), ?_⟩
  refine wpT_runG (i := 5) (by kernel_rfl) rfl rfl ?_
  go_simp
  refine (CN.out _ hb5 _).mono ?_
  rintro r w5 ⟨rfl, rfl⟩
  refine ⟨cond_keep (by decide) (HSW.out _ hb5), ?_⟩
  refine wpT_takeG (i := 6) (v := ?vb6) rfl (by kernel_rfl) (fun _ _ _ h => h) rfl ?yb6 ?rb6
  case yb6 => ((intro wz; go_simp); try with_reducible rfl)
  try simp only [Act.put, List.setIfInBounds_toArray, List.set_cons_zero, List.set_cons_succ]
  refine wpT_done (by kernel_rfl) ?_ _
  go_wp2
  go_ret
  exact ⟨k, rfl, HK.out, B5.out⟩

theorem name_iff {ns : List Cl} {l e k : Nat} (h : Scened ns l) (hk : (runFrom Md.init ns).fst e = some k) : k ∈ (runFrom Md.init ns).names ((runFrom Md.init ns).seq l) ↔ e ∈ (runFrom Md.init ns).seq l := by
  constructor
  · intro q
    obtain ⟨f, h1, h2, _⟩ := scene_elem h q
    rw [fst_inj h.wf hk h2]; exact h1
  · intro q
    unfold Md.names
    refine List.mem_map.2 ⟨e, q, ?_⟩
    unfold Md.name
    rw [hk]; rfl

set_option maxHeartbeats 16000000 in
theorem lenCounts_c {w : World} {v : Value} {cs : List Cl} (s : Scr w v cs) (hn : cs.length ≤ 1048576) (n : Int) (op list other elem mark vk vn : Int) (vt : ByteArray) (hc : (⟨vk, vn, vt⟩ : Vl).ok) :
    Calls Try.prog 9 #[v, .int .i64 n, .agg #[.int .i64 op, .int .i64 list, .int .i64 other, .int .i64 elem, .int .i64 mark, .int .i64 vk, .int .i64 vn, .string vt]] w fun r w' => r = .returned (.bool true) ∧ Below w.heap.size w w' := by
  have ST := Lib.hid (fun o => set_f (s.later (below1 w o)) hn n)
  have CO := Lib.hid hc
  clear s hc
  go_enter Try.func9, Try.ntmps9
  go_wp2_with fail
  refine (ST.out _).mono ?_
  rintro r w1 ⟨hb1, hcase⟩
  have B1 := Lib.hid ((below1 w _).trans (hb1.mono (by simp)))
  have G1 := Lib.hid (heap_later (heap_alloc_new w (.cells #[.int .i64 op, .int .i64 list, .int .i64 other, .int .i64 elem, .int .i64 mark, .int .i64 vk, .int .i64 vn, .string vt] 29)) hb1)
  have hw0 : w.heap.size < w1.heap.size := (Array.getElem?_eq_some_iff.1 G1.out).1
  clear hb1 ST
  have g0 := cell_of_heap (o := 0) G1.out rfl
  have g1 := cell_of_heap (o := 1) G1.out rfl
  have gf : w1.frozen? ⟨w.heap.size, 1, none⟩ = false := free_of_heap G1.out
  rcases hcase with ⟨l, vs, ve, rfl, hsc, hok0, hl0, hs1, hn1, hvs, hve, _⟩ | rfl
  · have SC := Lib.hid hsc
    generalize hns : namedC cs = ns at *
    clear hns hsc hok0 hl0
    have LN := SC.out.len
    have NL := names_length (m := runFrom Md.init ns) ((runFrom Md.init ns).seq l)
    have hlen := scene_len SC.out
    have kk : Keeps (fun k => k = w.heap.size) w1 (w1.setCell ⟨w.heap.size, 1, none⟩ (.int .i64 (l : Nat))) := (Keeps.refl (fun k => k = w.heap.size) w1).setCell (p := ⟨w.heap.size, 1, none⟩) (fun _ => rfl) _
    have zs : (w1.setCell ⟨w.heap.size, 1, none⟩ (.int .i64 (l : Nat))).heap.size = w1.heap.size := by simp [World.setCell]
    have S1 : Scr (w1.setCell ⟨w.heap.size, 1, none⟩ (.int .i64 (l : Nat))) vs ns := ⟨hs1.sl.keep kk (fun b q r => by have := hvs b q; simp at this; omega), hs1.fair, hs1.ok⟩
    have N1 : Nats (w1.setCell ⟨w.heap.size, 1, none⟩ (.int .i64 (l : Nat))) ve ((runFrom Md.init ns).names ((runFrom Md.init ns).seq l)) := Sl.keep hn1 kk (fun b q r => by have := hve b q; simp at this; omega)
    have G1' : (w1.setCell ⟨w.heap.size, 1, none⟩ (.int .i64 (l : Nat))).heap[w.heap.size]? = some (.cells #[.int .i64 op, .int .i64 (l : Nat), .int .i64 other, .int .i64 elem, .int .i64 mark, .int .i64 vk, .int .i64 vn, .string vt] 29 (0, 0)) := by have := heap_set (o := 1) (v := .int .i64 (l : Nat)) G1.out; simpa using this
    have B1' : Below w.heap.size w (w1.setCell ⟨w.heap.size, 1, none⟩ (.int .i64 (l : Nat))) := B1.out.trans (kk.below (fun k hk _ q => by omega) B1.out.size)
    obtain ⟨y1, y2, rfl⟩ := hs1.form
    obtain ⟨x1, x2, rfl⟩ := hn1.form
    generalize hN0 : ((runFrom Md.init ns).seq l).length = N0 at *
    have HN0 := Lib.hid hN0
    rw [NL] at N1 ⊢
    have HNL := Lib.hid NL
    have BX : ((w1.setCell ⟨w.heap.size, 1, none⟩ (.int .i64 (l : Nat))).alloc (.cells #[.slice y1 ns.length y2, .int .i64 (l : Nat), .slice x1 N0 x2] 46)).heap[w1.heap.size]? = some (.cells #[.slice y1 ns.length y2, .int .i64 (l : Nat), .slice x1 N0 x2] 46 (0, 0)) := by have := heap_alloc_new (w1.setCell ⟨w.heap.size, 1, none⟩ (.int .i64 (l : Nat))) (.cells #[.slice y1 ns.length y2, .int .i64 (l : Nat), .slice x1 N0 x2] 46); rw [zs] at this; exact this
    have SX := Lib.hid (S1.later (below1 _ (.cells #[.slice y1 ns.length y2, .int .i64 (l : Nat), .slice x1 N0 x2] 46)))
    have NX := Lib.hid (N1.later (below1 _ (.cells #[.slice y1 ns.length y2, .int .i64 (l : Nat), .slice x1 N0 x2] 46)))
    have CX := Lib.hid (heap_more G1' (.cells #[.slice y1 ns.length y2, .int .i64 (l : Nat), .slice x1 N0 x2] 46))
    have BBX := Lib.hid (B1'.trans ((below1 _ (.cells #[.slice y1 ns.length y2, .int .i64 (l : Nat), .slice x1 N0 x2] 46)).mono B1'.size))
    have BX := Lib.hid BX
    have zX : ((w1.setCell ⟨w.heap.size, 1, none⟩ (.int .i64 (l : Nat))).alloc (.cells #[.slice y1 ns.length y2, .int .i64 (l : Nat), .slice x1 N0 x2] 46)).heap.size = w1.heap.size + 1 := by simp [World.setCell]
    clear hs1 hn1 hvs hve kk zs S1 N1 G1' B1' hN0 NL
    by_cases h3 : op < 3
    · clear SX NX CX BX zX
      go_wp2
      go_ret
      exact ⟨rfl, BBX.out⟩
    by_cases h19 : 19 < op
    · clear SX NX CX BX zX
      go_wp2
      go_ret
      exact ⟨rfl, BBX.out⟩
    have q3 : decide (op < 3) = false := by simp; omega
    have q19 : decide (19 < op) = false := by simp; omega
    have g2 := cell_of_heap (o := 2) G1.out rfl
    have g3 := cell_of_heap (o := 3) G1.out rfl
    have g4 := cell_of_heap (o := 4) G1.out rfl
    have g5 := cell_of_heap (o := 5) G1.out rfl
    have g6 := cell_of_heap (o := 6) G1.out rfl
    have g7 := cell_of_heap (o := 7) G1.out rfl
    go_wp2_with fail
    generalize hwX : (w1.setCell ⟨w.heap.size, 1, none⟩ (.int .i64 (l : Nat))).alloc (.cells #[.slice y1 ns.length y2, .int .i64 (l : Nat), .slice x1 N0 x2] 46) = wX at *
    refine (with_c (l := l) (ns := ns) (cl := [(⟨op, (l : Nat), other, elem, mark, ⟨vk, vn, vt⟩⟩ : Cl)]) (SX.out.later (below1 wX _)) (scr_lit wX [(⟨op, (l : Nat), other, elem, mark, ⟨vk, vn, vt⟩⟩ : Cl)] 29 (w1.heap.size + 1) 1 zX rfl (by simpa using CO.out)) ⟨_, _, _, rfl⟩ (by simp; omega)).mono ?_
    rintro r w3 ⟨v3, rfl, s3, hb3⟩
    have hb3' := (below1 wX _).trans (hb3.mono (by simp))
    have PM := Lib.hid (permittedL_c s3.sl (by simp; omega))
    have HB3 := Lib.hid hb3'
    clear hb3 hb3' s3 hwX g0 g1 g2 g3 g4 g5 g6 g7 gf
    go_wp2_with fail
    refine PM.out.mono ?_
    rintro r w4 ⟨rfl, hb4⟩
    have HB4 := Lib.hid (HB3.out.trans (hb4.mono HB3.out.size))
    have B4 := Lib.hid (BBX.out.trans (HB4.out.mono BBX.out.size))
    clear hb4 PM HB3
    cases hok : okFrom 500 Md.init (ns ++ [(⟨op, (l : Nat), other, elem, mark, ⟨vk, vn, vt⟩⟩ : Cl)].map (onL l)) with
    | false =>
      clear hok
      go_wp2
      go_ret
      exact ⟨rfl, B4.out⟩
    | true =>
      have hok' : okFrom 500 Md.init (ns ++ [(⟨op, (l : Nat), other, elem, mark, ⟨vk, vn, vt⟩⟩ : Cl)]) = true := hok
      have OK := Lib.hid hok'
      rw [okFrom_append, SC.out.ok] at hok'
      simp only [okFrom, Bool.and_true, Bool.true_and] at hok'
      have hp := (permitted_iff _ _ _).1 hok'
      have LAW := Lib.hid (len_law (l := l) SC.out.wf hp (by simp))
      have HP := Lib.hid hp
      have S4 := Lib.hid (SX.out.later HB4.out)
      have N4 := Lib.hid (NX.out.later HB4.out)
      have CX4 := Lib.hid (heap_later CX.out HB4.out)
      have BX4 := Lib.hid (heap_later BX.out HB4.out)
      have z4 : w1.heap.size < w4.heap.size := (Array.getElem?_eq_some_iff.1 BX4.out).1
      have b0 := cell_of_heap (o := 0) BX4.out rfl
      have b1 := cell_of_heap (o := 1) BX4.out rfl
      clear hok hok' hp SX NX CX BX zX HB4 BBX
      go_wp2_with fail
      refine (behind_c (S4.out.later (below2 w4 _ _)) (scr_lit (w4.alloc _) [cLen l] 29 (w4.heap.size + 1) 1 (by simp) rfl (by simp [cLen]; exact vl_zero_ok)) (ok_len SC.out.ok SC.out.lst) (by decide) (by simp; omega)).mono ?_
      rintro r w5 ⟨v5, rfl, s5, _, hb5⟩
      rw [ans_len, HN0.out] at s5
      obtain ⟨p1, o1, k1, rfl, cell1⟩ := s5.elem (l := [(⟨-1, (N0 : Nat), Vl.zero⟩ : An)]) An.cells_length (by decide) (by simp)
      have d1 : w5.cell? ⟨p1, o1 + 1, none⟩ = some (.int .i64 (N0 : Nat)) := cell1 0 _ rfl 1 _ rfl
      have LK5 := Lib.hid (heap_later (heap_more (heap_alloc_new w4 (.cells #[.int .i64 17, .int .i64 (l : Nat), .int .i64 0, .int .i64 0, .int .i64 0, .int .i64 0, .int .i64 0, .string ⟨#[]⟩] 29)) _) hb5)
      have hb45 := (below2 w4 _ _).trans (hb5.mono (by simp; omega))
      have B5 := Lib.hid (B4.out.trans (hb45.mono B4.out.size))
      have S5 := Lib.hid (S4.out.later hb45)
      have N5 := Lib.hid (N4.out.later hb45)
      have CX5 := Lib.hid (heap_later CX4.out hb45)
      have BX5 := Lib.hid (heap_later BX4.out hb45)
      clear s5 cell1 hb5 hb45 b0 b1 S4 N4 CX4 BX4 B4
      go_wp2_with fail
      clear d1
      obtain ⟨N1, hN1⟩ : ∃ N1, ((runFrom Md.init (ns ++ [(⟨op, (l : Nat), other, elem, mark, ⟨vk, vn, vt⟩⟩ : Cl)])).seq l).length = N1 := ⟨_, rfl⟩
      have HN1 := Lib.hid hN1
      have hN1b : N1 ≤ 500 := by
        have := (WF.run _ WF.init OK.out).seq_le l
        have := run_cnt_le _ OK.out (by simp [Md.init])
        omega
      clear hN1
      go_cut [11] (fun s wc => s = .int .i64 (N1 : Nat) ∧ Below w5.heap.size w5 wc)
      case first =>
        have HSW : Hid (∀ W, Below w5.heap.size w5 W → (fun X : World => X.cell? ⟨w1.heap.size, 0, none⟩ = some (.slice y1 ns.length y2) ∧ X.cell? ⟨w1.heap.size, 1, none⟩ = some (.int .i64 (l : Nat)) ∧ X.cell? ⟨w1.heap.size, 2, none⟩ = some (.slice x1 N0 x2) ∧ X.cell? ⟨w.heap.size, 0, none⟩ = some (.int .i64 op) ∧ X.cell? ⟨w.heap.size, 1, none⟩ = some (.int .i64 (l : Nat)) ∧ X.cell? ⟨w.heap.size, 2, none⟩ = some (.int .i64 other) ∧ X.cell? ⟨w.heap.size, 3, none⟩ = some (.int .i64 elem) ∧ X.cell? ⟨w.heap.size, 4, none⟩ = some (.int .i64 mark) ∧ X.cell? ⟨w.heap.size, 5, none⟩ = some (.int .i64 vk) ∧ X.cell? ⟨w.heap.size, 6, none⟩ = some (.int .i64 vn) ∧ X.cell? ⟨w.heap.size, 7, none⟩ = some (.string vt) ∧ X.cell? ⟨w4.heap.size, 0, none⟩ = some (.int .i64 17) ∧ X.cell? ⟨w4.heap.size, 1, none⟩ = some (.int .i64 (l : Nat)) ∧ X.cell? ⟨w4.heap.size, 2, none⟩ = some (.int .i64 0) ∧ X.cell? ⟨w4.heap.size, 3, none⟩ = some (.int .i64 0) ∧ X.cell? ⟨w4.heap.size, 4, none⟩ = some (.int .i64 0) ∧ X.cell? ⟨w4.heap.size, 5, none⟩ = some (.int .i64 0) ∧ X.cell? ⟨w4.heap.size, 6, none⟩ = some (.int .i64 0) ∧ X.cell? ⟨w4.heap.size, 7, none⟩ = some (.string ⟨#[]⟩)) W) := fun W hb => ⟨cell_of_heap (o := 0) (heap_later BX5.out hb) rfl, cell_of_heap (o := 1) (heap_later BX5.out hb) rfl, cell_of_heap (o := 2) (heap_later BX5.out hb) rfl, cell_of_heap (o := 0) (heap_later CX5.out hb) rfl, cell_of_heap (o := 1) (heap_later CX5.out hb) rfl, cell_of_heap (o := 2) (heap_later CX5.out hb) rfl, cell_of_heap (o := 3) (heap_later CX5.out hb) rfl, cell_of_heap (o := 4) (heap_later CX5.out hb) rfl, cell_of_heap (o := 5) (heap_later CX5.out hb) rfl, cell_of_heap (o := 6) (heap_later CX5.out hb) rfl, cell_of_heap (o := 7) (heap_later CX5.out hb) rfl, cell_of_heap (o := 0) (heap_later LK5.out hb) rfl, cell_of_heap (o := 1) (heap_later LK5.out hb) rfl, cell_of_heap (o := 2) (heap_later LK5.out hb) rfl, cell_of_heap (o := 3) (heap_later LK5.out hb) rfl, cell_of_heap (o := 4) (heap_later LK5.out hb) rfl, cell_of_heap (o := 5) (heap_later LK5.out hb) rfl, cell_of_heap (o := 6) (heap_later LK5.out hb) rfl, cell_of_heap (o := 7) (heap_later LK5.out hb) rfl⟩
        refine wp_region_T (fun X : World => X.cell? ⟨w1.heap.size, 0, none⟩ = some (.slice y1 ns.length y2) ∧ X.cell? ⟨w1.heap.size, 1, none⟩ = some (.int .i64 (l : Nat)) ∧ X.cell? ⟨w1.heap.size, 2, none⟩ = some (.slice x1 N0 x2) ∧ X.cell? ⟨w.heap.size, 0, none⟩ = some (.int .i64 op) ∧ X.cell? ⟨w.heap.size, 1, none⟩ = some (.int .i64 (l : Nat)) ∧ X.cell? ⟨w.heap.size, 2, none⟩ = some (.int .i64 other) ∧ X.cell? ⟨w.heap.size, 3, none⟩ = some (.int .i64 elem) ∧ X.cell? ⟨w.heap.size, 4, none⟩ = some (.int .i64 mark) ∧ X.cell? ⟨w.heap.size, 5, none⟩ = some (.int .i64 vk) ∧ X.cell? ⟨w.heap.size, 6, none⟩ = some (.int .i64 vn) ∧ X.cell? ⟨w.heap.size, 7, none⟩ = some (.string vt) ∧ X.cell? ⟨w4.heap.size, 0, none⟩ = some (.int .i64 17) ∧ X.cell? ⟨w4.heap.size, 1, none⟩ = some (.int .i64 (l : Nat)) ∧ X.cell? ⟨w4.heap.size, 2, none⟩ = some (.int .i64 0) ∧ X.cell? ⟨w4.heap.size, 3, none⟩ = some (.int .i64 0) ∧ X.cell? ⟨w4.heap.size, 4, none⟩ = some (.int .i64 0) ∧ X.cell? ⟨w4.heap.size, 5, none⟩ = some (.int .i64 0) ∧ X.cell? ⟨w4.heap.size, 6, none⟩ = some (.int .i64 0) ∧ X.cell? ⟨w4.heap.size, 7, none⟩ = some (.string ⟨#[]⟩)) [2, 3, 5, 6, 9] [] run_mixed ?_
        simp only [List.size_toArray, List.length_cons, List.length_nil]
        have hbd : Below w5.heap.size w5 w5.drew := (Below.refl _ w5).drew
        have H0 := Lib.hid hbd
        have SK := Lib.hid (S5.out.later hbd)
        generalize w5.drew = wk at *
        have HS := HSW.out _ hbd
        clear hbd
        refine wpT_loadG (i := 0) (v := ?va0) rfl (by kernel_rfl) (fun _ _ _ h => h) rfl ?ya0 HS ?ra0
        case ya0 => ((intro wz hSw; (try dsimp only at hSw); go_split_ands; go_simp); try with_reducible rfl)
        try simp only [Act.put, List.setIfInBounds_toArray, List.set_cons_zero, List.set_cons_succ]
        refine wpT_loadG (i := 1) (v := ?va1) rfl (by kernel_rfl) (fun _ _ _ h => h) rfl ?ya1 HS ?ra1
        case ya1 => ((intro wz hSw; (try dsimp only at hSw); go_split_ands; go_simp); try with_reducible rfl)
        try simp only [Act.put, List.setIfInBounds_toArray, List.set_cons_zero, List.set_cons_succ]
        refine wpT_loadG (i := 4) (v := ?va4) rfl (by kernel_rfl) (fun _ _ _ h => h) rfl ?ya4 HS ?ra4
        case ya4 => ((intro wz hSw; (try dsimp only at hSw); go_split_ands; go_simp); try with_reducible rfl)
        try simp only [Act.put, List.setIfInBounds_toArray, List.set_cons_zero, List.set_cons_succ]
        refine wpT_two (i := 2) (j := 5) (by kernel_rfl) rfl rfl rfl rfl ?_ ?_
        · go_simp
          have hbz1 := below1 wk (.cells #[.int .i64 op, .int .i64 (l : Nat), .int .i64 other, .int .i64 elem, .int .i64 mark, .int .i64 vk, .int .i64 vn, .string vt] 29)
          have Fz2 := Lib.hid (SK.out.later hbz1)
          have Gz1 : Hid (Scr (wk.alloc (.cells #[.int .i64 op, .int .i64 (l : Nat), .int .i64 other, .int .i64 elem, .int .i64 mark, .int .i64 vk, .int .i64 vn, .string vt] 29)) (.slice (some ⟨wk.heap.size, 0, none⟩) 1 1) [(⟨op, (l : Nat), other, elem, mark, ⟨vk, vn, vt⟩⟩ : Cl)]) := scr_lit wk [(⟨op, (l : Nat), other, elem, mark, ⟨vk, vn, vt⟩⟩ : Cl)] 29 wk.heap.size 1 rfl rfl (by simpa using CO.out)
          have Hz1 := Lib.hid (H0.out.trans (hbz1.mono H0.out.size))
          generalize hwz1 : wk.alloc (.cells #[.int .i64 op, .int .i64 (l : Nat), .int .i64 other, .int .i64 elem, .int .i64 mark, .int .i64 vk, .int .i64 vn, .string vt] 29) = wz1 at *
          clear hwz1 hbz1
          refine ⟨cond_keep (by decide) (HSW.out _ Hz1.out), ?_⟩
          refine wpT_two (i := 3) (j := 5) (by kernel_rfl) rfl rfl rfl rfl ?_ ?_
          · go_simp
            refine (with_c (l := l) (ns := ns) (cl := [(⟨op, (l : Nat), other, elem, mark, ⟨vk, vn, vt⟩⟩ : Cl)]) Fz2.out Gz1.out ⟨_, _, _, rfl⟩ (by simp; omega)).mono ?_
            rintro r wz3 ⟨vz3, rfl, sz3, hbz3⟩
            have Fz4 := Lib.hid (Fz2.out.later hbz3)
            have Fz5 := Lib.hid (Gz1.out.later hbz3)
            have Gz3 : Hid (Scr wz3 vz3 (ns ++ [(⟨op, (l : Nat), other, elem, mark, ⟨vk, vn, vt⟩⟩ : Cl)])) := sz3
            have Hz3 := Lib.hid (Hz1.out.trans (hbz3.mono Hz1.out.size))
            clear sz3 hbz3
            refine ⟨cond_keep (by decide) (HSW.out _ Hz3.out), ?_⟩
            refine wpT_runG (i := 5) (by kernel_rfl) rfl rfl ?_
            go_simp
            have hbz6 := below1 wz3 (.cells #[.int .i64 17, .int .i64 (l : Nat), .int .i64 0, .int .i64 0, .int .i64 0, .int .i64 0, .int .i64 0, .string ⟨#[]⟩] 29)
            have Fz7 := Lib.hid (Fz4.out.later hbz6)
            have Fz8 := Lib.hid (Fz5.out.later hbz6)
            have Fz9 := Lib.hid (Gz3.out.later hbz6)
            have Gz6 : Hid (Scr (wz3.alloc (.cells #[.int .i64 17, .int .i64 (l : Nat), .int .i64 0, .int .i64 0, .int .i64 0, .int .i64 0, .int .i64 0, .string ⟨#[]⟩] 29)) (.slice (some ⟨wz3.heap.size, 0, none⟩) 1 1) [cLen l]) := scr_lit wz3 [cLen l] 29 wz3.heap.size 1 rfl rfl (by simp [cLen]; exact vl_zero_ok)
            have Hz6 := Lib.hid (Hz3.out.trans (hbz6.mono Hz3.out.size))
            generalize hwz6 : wz3.alloc (.cells #[.int .i64 17, .int .i64 (l : Nat), .int .i64 0, .int .i64 0, .int .i64 0, .int .i64 0, .int .i64 0, .string ⟨#[]⟩] 29) = wz6 at *
            clear hwz6 hbz6
            refine ⟨cond_keep (by decide) (HSW.out _ Hz6.out), ?_⟩
            refine wpT_runG (i := 6) (by kernel_rfl) rfl rfl ?_
            go_simp
            refine (behind_c Fz9.out Gz6.out (ok_len OK.out (by rw [runFrom_append]; exact run_isL_mono _ SC.out.lst)) (by decide) (by simp; omega)).mono ?_
            rintro r wz10 ⟨vz10, rfl, sz10, _, hbz10⟩
            rw [ans_len, HN1.out] at sz10
            obtain ⟨p1, o1, k1, rfl, cell1⟩ := sz10.elem (l := [(⟨-1, (N1 : Nat), Vl.zero⟩ : An)]) An.cells_length (by decide) (by simp)
            have d1 : wz10.cell? ⟨p1, o1 + 1, none⟩ = some (.int .i64 (N1 : Nat)) := cell1 0 _ rfl 1 _ rfl
            have Hz10 := Lib.hid (Hz6.out.trans (hbz10.mono Hz6.out.size))
            clear sz10 hbz10 cell1
            refine ⟨cond_keep (by decide) (HSW.out _ Hz10.out), ?_⟩
            refine wpT_takeG (i := 7) (v := ?vez107) rfl (by kernel_rfl) (fun _ _ _ h => h) rfl ?yez107 ?rez107
            case yez107 => ((intro wz; go_simp); try with_reducible rfl)
            try simp only [Act.put, List.setIfInBounds_toArray, List.set_cons_zero, List.set_cons_succ]
            refine wpT_takeG (i := 8) (v := ?vez108) rfl (by kernel_rfl) (fun _ _ _ h => h) rfl ?yez108 ?rez108
            case yez108 => ((intro wz; go_simp); try with_reducible rfl)
            try simp only [Act.put, List.setIfInBounds_toArray, List.set_cons_zero, List.set_cons_succ]
            refine wpT_runG (i := 9) (by kernel_rfl) rfl rfl ?_
            go_simp
            refine ⟨cond_keep (by decide) (HSW.out _ Hz10.out), ?_⟩
            clear d1
            refine wpT_takeG (i := 10) (v := ?vgz1010) rfl (by kernel_rfl) (fun _ _ _ h => h) rfl ?ygz1010 ?rgz1010
            case ygz1010 => ((intro wz; go_simp); try with_reducible rfl)
            try simp only [Act.put, List.setIfInBounds_toArray, List.set_cons_zero, List.set_cons_succ]
            refine wpT_done (by kernel_rfl) ?_ _
            go_wp2
            go_meet
            case rel => exact ⟨rfl, Hz10.out⟩
          · go_simp
            have hbz11 := below1 wz1 (.cells #[.int .i64 17, .int .i64 (l : Nat), .int .i64 0, .int .i64 0, .int .i64 0, .int .i64 0, .int .i64 0, .string ⟨#[]⟩] 29)
            have Fz12 := Lib.hid (Fz2.out.later hbz11)
            have Fz13 := Lib.hid (Gz1.out.later hbz11)
            have Gz11 : Hid (Scr (wz1.alloc (.cells #[.int .i64 17, .int .i64 (l : Nat), .int .i64 0, .int .i64 0, .int .i64 0, .int .i64 0, .int .i64 0, .string ⟨#[]⟩] 29)) (.slice (some ⟨wz1.heap.size, 0, none⟩) 1 1) [cLen l]) := scr_lit wz1 [cLen l] 29 wz1.heap.size 1 rfl rfl (by simp [cLen]; exact vl_zero_ok)
            have Hz11 := Lib.hid (Hz1.out.trans (hbz11.mono Hz1.out.size))
            generalize hwz11 : wz1.alloc (.cells #[.int .i64 17, .int .i64 (l : Nat), .int .i64 0, .int .i64 0, .int .i64 0, .int .i64 0, .int .i64 0, .string ⟨#[]⟩] 29) = wz11 at *
            clear hwz11 hbz11
            refine ⟨cond_keep (by decide) (HSW.out _ Hz11.out), ?_⟩
            refine wpT_runG (i := 3) (by kernel_rfl) rfl rfl ?_
            go_simp
            refine (with_c (l := l) (ns := ns) (cl := [(⟨op, (l : Nat), other, elem, mark, ⟨vk, vn, vt⟩⟩ : Cl)]) Fz12.out Fz13.out ⟨_, _, _, rfl⟩ (by simp; omega)).mono ?_
            rintro r wz14 ⟨vz14, rfl, sz14, hbz14⟩
            have Fz15 := Lib.hid (Fz12.out.later hbz14)
            have Fz16 := Lib.hid (Fz13.out.later hbz14)
            have Fz17 := Lib.hid (Gz11.out.later hbz14)
            have Gz14 : Hid (Scr wz14 vz14 (ns ++ [(⟨op, (l : Nat), other, elem, mark, ⟨vk, vn, vt⟩⟩ : Cl)])) := sz14
            have Hz14 := Lib.hid (Hz11.out.trans (hbz14.mono Hz11.out.size))
            clear sz14 hbz14
            refine ⟨cond_keep (by decide) (HSW.out _ Hz14.out), ?_⟩
            refine wpT_runG (i := 6) (by kernel_rfl) rfl rfl ?_
            go_simp
            refine (behind_c Gz14.out Fz17.out (ok_len OK.out (by rw [runFrom_append]; exact run_isL_mono _ SC.out.lst)) (by decide) (by simp; omega)).mono ?_
            rintro r wz18 ⟨vz18, rfl, sz18, _, hbz18⟩
            rw [ans_len, HN1.out] at sz18
            obtain ⟨p1, o1, k1, rfl, cell1⟩ := sz18.elem (l := [(⟨-1, (N1 : Nat), Vl.zero⟩ : An)]) An.cells_length (by decide) (by simp)
            have d1 : wz18.cell? ⟨p1, o1 + 1, none⟩ = some (.int .i64 (N1 : Nat)) := cell1 0 _ rfl 1 _ rfl
            have Hz18 := Lib.hid (Hz14.out.trans (hbz18.mono Hz14.out.size))
            clear sz18 hbz18 cell1
            refine ⟨cond_keep (by decide) (HSW.out _ Hz18.out), ?_⟩
            refine wpT_takeG (i := 7) (v := ?vez187) rfl (by kernel_rfl) (fun _ _ _ h => h) rfl ?yez187 ?rez187
            case yez187 => ((intro wz; go_simp); try with_reducible rfl)
            try simp only [Act.put, List.setIfInBounds_toArray, List.set_cons_zero, List.set_cons_succ]
            refine wpT_takeG (i := 8) (v := ?vez188) rfl (by kernel_rfl) (fun _ _ _ h => h) rfl ?yez188 ?rez188
            case yez188 => ((intro wz; go_simp); try with_reducible rfl)
            try simp only [Act.put, List.setIfInBounds_toArray, List.set_cons_zero, List.set_cons_succ]
            refine wpT_runG (i := 9) (by kernel_rfl) rfl rfl ?_
            go_simp
            refine ⟨cond_keep (by decide) (HSW.out _ Hz18.out), ?_⟩
            clear d1
            refine wpT_takeG (i := 10) (v := ?vgz1810) rfl (by kernel_rfl) (fun _ _ _ h => h) rfl ?ygz1810 ?rgz1810
            case ygz1810 => ((intro wz; go_simp); try with_reducible rfl)
            try simp only [Act.put, List.setIfInBounds_toArray, List.set_cons_zero, List.set_cons_succ]
            refine wpT_done (by kernel_rfl) ?_ _
            go_wp2
            go_meet
            case rel => exact ⟨rfl, Hz18.out⟩
        · go_simp
          have hbz19 := below1 wk (.cells #[.int .i64 17, .int .i64 (l : Nat), .int .i64 0, .int .i64 0, .int .i64 0, .int .i64 0, .int .i64 0, .string ⟨#[]⟩] 29)
          have Fz20 := Lib.hid (SK.out.later hbz19)
          have Gz19 : Hid (Scr (wk.alloc (.cells #[.int .i64 17, .int .i64 (l : Nat), .int .i64 0, .int .i64 0, .int .i64 0, .int .i64 0, .int .i64 0, .string ⟨#[]⟩] 29)) (.slice (some ⟨wk.heap.size, 0, none⟩) 1 1) [cLen l]) := scr_lit wk [cLen l] 29 wk.heap.size 1 rfl rfl (by simp [cLen]; exact vl_zero_ok)
          have Hz19 := Lib.hid (H0.out.trans (hbz19.mono H0.out.size))
          generalize hwz19 : wk.alloc (.cells #[.int .i64 17, .int .i64 (l : Nat), .int .i64 0, .int .i64 0, .int .i64 0, .int .i64 0, .int .i64 0, .string ⟨#[]⟩] 29) = wz19 at *
          clear hwz19 hbz19
          refine ⟨cond_keep (by decide) (HSW.out _ Hz19.out), ?_⟩
          refine wpT_runG (i := 2) (by kernel_rfl) rfl rfl ?_
          go_simp
          have hbz21 := below1 wz19 (.cells #[.int .i64 op, .int .i64 (l : Nat), .int .i64 other, .int .i64 elem, .int .i64 mark, .int .i64 vk, .int .i64 vn, .string vt] 29)
          have Fz22 := Lib.hid (Fz20.out.later hbz21)
          have Fz23 := Lib.hid (Gz19.out.later hbz21)
          have Gz21 : Hid (Scr (wz19.alloc (.cells #[.int .i64 op, .int .i64 (l : Nat), .int .i64 other, .int .i64 elem, .int .i64 mark, .int .i64 vk, .int .i64 vn, .string vt] 29)) (.slice (some ⟨wz19.heap.size, 0, none⟩) 1 1) [(⟨op, (l : Nat), other, elem, mark, ⟨vk, vn, vt⟩⟩ : Cl)]) := scr_lit wz19 [(⟨op, (l : Nat), other, elem, mark, ⟨vk, vn, vt⟩⟩ : Cl)] 29 wz19.heap.size 1 rfl rfl (by simpa using CO.out)
          have Hz21 := Lib.hid (Hz19.out.trans (hbz21.mono Hz19.out.size))
          generalize hwz21 : wz19.alloc (.cells #[.int .i64 op, .int .i64 (l : Nat), .int .i64 other, .int .i64 elem, .int .i64 mark, .int .i64 vk, .int .i64 vn, .string vt] 29) = wz21 at *
          clear hwz21 hbz21
          refine ⟨cond_keep (by decide) (HSW.out _ Hz21.out), ?_⟩
          refine wpT_runG (i := 3) (by kernel_rfl) rfl rfl ?_
          go_simp
          refine (with_c (l := l) (ns := ns) (cl := [(⟨op, (l : Nat), other, elem, mark, ⟨vk, vn, vt⟩⟩ : Cl)]) Fz22.out Gz21.out ⟨_, _, _, rfl⟩ (by simp; omega)).mono ?_
          rintro r wz24 ⟨vz24, rfl, sz24, hbz24⟩
          have Fz25 := Lib.hid (Fz22.out.later hbz24)
          have Fz26 := Lib.hid (Fz23.out.later hbz24)
          have Fz27 := Lib.hid (Gz21.out.later hbz24)
          have Gz24 : Hid (Scr wz24 vz24 (ns ++ [(⟨op, (l : Nat), other, elem, mark, ⟨vk, vn, vt⟩⟩ : Cl)])) := sz24
          have Hz24 := Lib.hid (Hz21.out.trans (hbz24.mono Hz21.out.size))
          clear sz24 hbz24
          refine ⟨cond_keep (by decide) (HSW.out _ Hz24.out), ?_⟩
          refine wpT_runG (i := 6) (by kernel_rfl) rfl rfl ?_
          go_simp
          refine (behind_c Gz24.out Fz26.out (ok_len OK.out (by rw [runFrom_append]; exact run_isL_mono _ SC.out.lst)) (by decide) (by simp; omega)).mono ?_
          rintro r wz28 ⟨vz28, rfl, sz28, _, hbz28⟩
          rw [ans_len, HN1.out] at sz28
          obtain ⟨p1, o1, k1, rfl, cell1⟩ := sz28.elem (l := [(⟨-1, (N1 : Nat), Vl.zero⟩ : An)]) An.cells_length (by decide) (by simp)
          have d1 : wz28.cell? ⟨p1, o1 + 1, none⟩ = some (.int .i64 (N1 : Nat)) := cell1 0 _ rfl 1 _ rfl
          have Hz28 := Lib.hid (Hz24.out.trans (hbz28.mono Hz24.out.size))
          clear sz28 hbz28 cell1
          refine ⟨cond_keep (by decide) (HSW.out _ Hz28.out), ?_⟩
          refine wpT_takeG (i := 7) (v := ?vez287) rfl (by kernel_rfl) (fun _ _ _ h => h) rfl ?yez287 ?rez287
          case yez287 => ((intro wz; go_simp); try with_reducible rfl)
          try simp only [Act.put, List.setIfInBounds_toArray, List.set_cons_zero, List.set_cons_succ]
          refine wpT_takeG (i := 8) (v := ?vez288) rfl (by kernel_rfl) (fun _ _ _ h => h) rfl ?yez288 ?rez288
          case yez288 => ((intro wz; go_simp); try with_reducible rfl)
          try simp only [Act.put, List.setIfInBounds_toArray, List.set_cons_zero, List.set_cons_succ]
          refine wpT_runG (i := 9) (by kernel_rfl) rfl rfl ?_
          go_simp
          refine ⟨cond_keep (by decide) (HSW.out _ Hz28.out), ?_⟩
          clear d1
          refine wpT_takeG (i := 10) (v := ?vgz2810) rfl (by kernel_rfl) (fun _ _ _ h => h) rfl ?ygz2810 ?rgz2810
          case ygz2810 => ((intro wz; go_simp); try with_reducible rfl)
          try simp only [Act.put, List.setIfInBounds_toArray, List.set_cons_zero, List.set_cons_succ]
          refine wpT_done (by kernel_rfl) ?_ _
          go_wp2
          go_meet
          case rel => exact ⟨rfl, Hz28.out⟩
      case rest =>
        obtain ⟨rfl, hcb⟩ := hcut
        have B6 := Lib.hid (B5.out.trans (hcb.mono B5.out.size))
        have S6 := Lib.hid (S5.out.later hcb)
        have N6 := Lib.hid (N5.out.later hcb)
        have CX6 := Lib.hid (heap_later CX5.out hcb)
        have BX6 := Lib.hid (heap_later BX5.out hcb)
        have HM : (((runFrom Md.init ns).step (⟨op, (l : Nat), other, elem, mark, ⟨vk, vn, vt⟩⟩ : Cl)).1.seq l).length = N1 := by have := HN1.out; rw [runFrom_append] at this; exact this
        have HMM := Lib.hid HM
        have c0 := cell_of_heap (o := 0) CX6.out rfl
        have c2 := cell_of_heap (o := 2) CX6.out rfl
        have c3 := cell_of_heap (o := 3) CX6.out rfl
        have c4 := cell_of_heap (o := 4) CX6.out rfl
        have b0 := cell_of_heap (o := 0) BX6.out rfl
        have b2 := cell_of_heap (o := 2) BX6.out rfl
        have NLE := HNL.out
        clear HM hcb q3 q19 S5 N5 CX5 BX5 B5
        rcases (show op = 3 ∨ op = 4 ∨ op = 5 ∨ op = 6 ∨ op = 11 ∨ op = 12 ∨ op = 13 ∨ op = 14 ∨ ((7 ≤ op ∧ op ≤ 10) ∨ (15 ≤ op ∧ op ≤ 19)) by omega) with rfl | rfl | rfl | rfl | rfl | rfl | rfl | rfl | hoth
        · have hq : N1 = N0 + 1 := by rw [← HMM.out, LAW.out.push (.inl rfl), HN0.out]
          subst hq
          clear h3 h19 NLE
          go_wp2
          go_ret
          exact ⟨rfl, B6.out⟩
        · have hq : N1 = N0 + 1 := by rw [← HMM.out, LAW.out.push (.inr rfl), HN0.out]
          subst hq
          clear h3 h19 NLE
          go_wp2
          go_ret
          exact ⟨rfl, B6.out⟩
        · obtain ⟨h0, _, x, hx⟩ := HP.out.mark (by simp)
          simp only at h0 hx
          obtain ⟨im, rfl⟩ : ∃ im : Nat, mark = (im : Nat) := ⟨mark.toNat, by omega⟩
          have XR := Lib.hid hx
          rw [Int.toNat_natCast] at hx
          have HA := Lib.hid (has1_c BX6.out S6.out SC.out.ok hx N6.out (by rw [NLE]; omega) (by omega))
          clear h3 h19 hx h0
          go_wp2_with fail
          refine HA.out.mono ?_
          rintro r w7 ⟨k, rfl, hk, hb7⟩
          have hiff := name_iff SC.out hk
          have B7 := Lib.hid (B6.out.trans (hb7.mono B6.out.size))
          have b27 := cell_of_heap (o := 2) (heap_later BX6.out hb7) rfl
          by_cases hin : x ∈ (runFrom Md.init ns).seq l
          · have hq : N1 = N0 + 1 := by rw [← HMM.out, LAW.out.insIn (.inl rfl) x XR.out hin, HN0.out]
            subst hq
            rw [decide_eq_true (hiff.2 hin)]
            clear hiff hin hk hb7 NLE c0 c2 c3 c4 b0 b2
            go_wp2
            go_ret
            exact ⟨rfl, B7.out⟩
          · have hq : N1 = N0 := by rw [← HMM.out, LAW.out.insOut (.inl rfl) x XR.out hin, HN0.out]
            subst hq
            rw [decide_eq_false (fun q => hin (hiff.1 q))]
            clear hiff hin hk hb7 NLE c0 c2 c3 c4 b0 b2
            go_wp2
            go_ret
            exact ⟨rfl, B7.out⟩
        · obtain ⟨h0, _, x, hx⟩ := HP.out.mark (by simp)
          simp only at h0 hx
          obtain ⟨im, rfl⟩ : ∃ im : Nat, mark = (im : Nat) := ⟨mark.toNat, by omega⟩
          have XR := Lib.hid hx
          rw [Int.toNat_natCast] at hx
          have HA := Lib.hid (has1_c BX6.out S6.out SC.out.ok hx N6.out (by rw [NLE]; omega) (by omega))
          clear h3 h19 hx h0
          go_wp2_with fail
          refine HA.out.mono ?_
          rintro r w7 ⟨k, rfl, hk, hb7⟩
          have hiff := name_iff SC.out hk
          have B7 := Lib.hid (B6.out.trans (hb7.mono B6.out.size))
          have b27 := cell_of_heap (o := 2) (heap_later BX6.out hb7) rfl
          by_cases hin : x ∈ (runFrom Md.init ns).seq l
          · have hq : N1 = N0 + 1 := by rw [← HMM.out, LAW.out.insIn (.inr rfl) x XR.out hin, HN0.out]
            subst hq
            rw [decide_eq_true (hiff.2 hin)]
            clear hiff hin hk hb7 NLE c0 c2 c3 c4 b0 b2
            go_wp2
            go_ret
            exact ⟨rfl, B7.out⟩
          · have hq : N1 = N0 := by rw [← HMM.out, LAW.out.insOut (.inr rfl) x XR.out hin, HN0.out]
            subst hq
            rw [decide_eq_false (fun q => hin (hiff.1 q))]
            clear hiff hin hk hb7 NLE c0 c2 c3 c4 b0 b2
            go_wp2
            go_ret
            exact ⟨rfl, B7.out⟩
        · obtain ⟨h0, _, x, hx⟩ := HP.out.elem (by simp)
          simp only at h0 hx
          obtain ⟨im, rfl⟩ : ∃ im : Nat, elem = (im : Nat) := ⟨elem.toNat, by omega⟩
          have XR := Lib.hid hx
          rw [Int.toNat_natCast] at hx
          have HA := Lib.hid (has1_c BX6.out S6.out SC.out.ok hx N6.out (by rw [NLE]; omega) (by omega))
          clear h3 h19 hx h0
          go_wp2_with fail
          refine HA.out.mono ?_
          rintro r w7 ⟨k, rfl, hk, hb7⟩
          have hiff := name_iff SC.out hk
          have B7 := Lib.hid (B6.out.trans (hb7.mono B6.out.size))
          have b27 := cell_of_heap (o := 2) (heap_later BX6.out hb7) rfl
          by_cases hin : x ∈ (runFrom Md.init ns).seq l
          · have hq : N0 = N1 + 1 := by have := LAW.out.remIn rfl x XR.out hin; rw [HMM.out, HN0.out] at this; omega
            subst hq
            rw [decide_eq_true (hiff.2 hin)]
            clear hiff hin hk hb7 NLE c0 c2 c3 c4 b0 b2
            go_wp2
            go_ret
            exact ⟨rfl, B7.out⟩
          · have hq : N1 = N0 := by rw [← HMM.out, LAW.out.remOut rfl x XR.out hin, HN0.out]
            subst hq
            rw [decide_eq_false (fun q => hin (hiff.1 q))]
            clear hiff hin hk hb7 NLE c0 c2 c3 c4 b0 b2
            go_wp2
            go_ret
            exact ⟨rfl, B7.out⟩
        · obtain ⟨h0, _, ho⟩ := HP.out.other (by simp)
          simp only at h0 ho
          obtain ⟨io, rfl⟩ : ∃ io : Nat, other = (io : Nat) := ⟨other.toNat, by omega⟩
          rw [Int.toNat_natCast] at ho
          obtain ⟨NO, hNO⟩ : ∃ NO, ((runFrom Md.init ns).seq io).length = NO := ⟨_, rfl⟩
          have hq : N1 = N0 + NO := by
            have := LAW.out.lst (.inl rfl)
            simp only [Int.toNat_natCast] at this
            rw [HMM.out, HN0.out, hNO] at this
            exact this
          have HNO := Lib.hid hNO; have HOL := Lib.hid ho
          clear h3 h19 h0 ho hNO
          subst hq
          go_wp2_with fail
          refine (behind_c (S6.out.later (below1 wc _)) (scr_lit wc [cLen io] 29 wc.heap.size 1 rfl rfl (by simp [cLen]; exact vl_zero_ok)) (ok_len SC.out.ok HOL.out) (by decide) (by simp; omega)).mono ?_
          rintro r w7 ⟨v7, rfl, s7, _, hb7⟩
          rw [ans_len, HNO.out] at s7
          obtain ⟨p1, o1, k1, rfl, cell1⟩ := s7.elem (l := [(⟨-1, (NO : Nat), Vl.zero⟩ : An)]) An.cells_length (by decide) (by simp)
          have d1 : w7.cell? ⟨p1, o1 + 1, none⟩ = some (.int .i64 (NO : Nat)) := cell1 0 _ rfl 1 _ rfl
          have hb67 := (below1 wc _).trans (hb7.mono (by simp))
          have B7 := Lib.hid (B6.out.trans (hb67.mono B6.out.size))
          have b27 := cell_of_heap (o := 2) (heap_later BX6.out hb67) rfl
          clear s7 cell1 hb7 hb67 NLE c0 c2 c3 c4 b0 b2
          go_wp2
          go_ret
          exact ⟨rfl, B7.out⟩
        · obtain ⟨h0, _, ho⟩ := HP.out.other (by simp)
          simp only at h0 ho
          obtain ⟨io, rfl⟩ : ∃ io : Nat, other = (io : Nat) := ⟨other.toNat, by omega⟩
          rw [Int.toNat_natCast] at ho
          obtain ⟨NO, hNO⟩ : ∃ NO, ((runFrom Md.init ns).seq io).length = NO := ⟨_, rfl⟩
          have hq : N1 = N0 + NO := by
            have := LAW.out.lst (.inr rfl)
            simp only [Int.toNat_natCast] at this
            rw [HMM.out, HN0.out, hNO] at this
            exact this
          have HNO := Lib.hid hNO; have HOL := Lib.hid ho
          clear h3 h19 h0 ho hNO
          subst hq
          go_wp2_with fail
          refine (behind_c (S6.out.later (below1 wc _)) (scr_lit wc [cLen io] 29 wc.heap.size 1 rfl rfl (by simp [cLen]; exact vl_zero_ok)) (ok_len SC.out.ok HOL.out) (by decide) (by simp; omega)).mono ?_
          rintro r w7 ⟨v7, rfl, s7, _, hb7⟩
          rw [ans_len, HNO.out] at s7
          obtain ⟨p1, o1, k1, rfl, cell1⟩ := s7.elem (l := [(⟨-1, (NO : Nat), Vl.zero⟩ : An)]) An.cells_length (by decide) (by simp)
          have d1 : w7.cell? ⟨p1, o1 + 1, none⟩ = some (.int .i64 (NO : Nat)) := cell1 0 _ rfl 1 _ rfl
          have hb67 := (below1 wc _).trans (hb7.mono (by simp))
          have B7 := Lib.hid (B6.out.trans (hb67.mono B6.out.size))
          have b27 := cell_of_heap (o := 2) (heap_later BX6.out hb67) rfl
          clear s7 cell1 hb7 hb67 NLE c0 c2 c3 c4 b0 b2
          go_wp2
          go_ret
          exact ⟨rfl, B7.out⟩
        · have hq : N1 = 0 := by rw [← HMM.out]; exact LAW.out.init rfl
          subst hq
          clear h3 h19 NLE
          go_wp2
          go_ret
          exact ⟨rfl, B6.out⟩
        · have hq : N1 = N0 := by rw [← HMM.out, LAW.out.same hoth, HN0.out]
          subst hq
          have f3 : (op == 3) = false := by have : ¬ op = 3 := by omega
                                            simpa using this
          have f4 : (op == 4) = false := by have : ¬ op = 4 := by omega
                                            simpa using this
          have f5 : (op == 5) = false := by have : ¬ op = 5 := by omega
                                            simpa using this
          have f6 : (op == 6) = false := by have : ¬ op = 6 := by omega
                                            simpa using this
          have f11 : (op == 11) = false := by have : ¬ op = 11 := by omega
                                              simpa using this
          have f12 : (op == 12) = false := by have : ¬ op = 12 := by omega
                                              simpa using this
          have f13 : (op == 13) = false := by have : ¬ op = 13 := by omega
                                              simpa using this
          have f14 : (op == 14) = false := by have : ¬ op = 14 := by omega
                                              simpa using this
          clear h3 h19 hoth NLE
          go_wp2
          go_ret
          exact ⟨rfl, B6.out⟩
  · simp only [scene0]
    have hB := (B1.out.setCell (p := ⟨w.heap.size, 1, none⟩) (Nat.le_refl _) (.int .i64 0))
    go_wp2
    go_ret
    refine ⟨rfl, ?_⟩
    exact (B1.out.setCell (Nat.le_refl _) _).trans ((below1 _ _).mono (by simp [World.setCell]; exact B1.out.size))
end Bead
end Go.Proofs.Ytbpbbmamgajimaa
