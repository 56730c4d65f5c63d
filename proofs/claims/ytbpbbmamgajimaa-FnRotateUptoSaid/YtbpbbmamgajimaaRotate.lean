/- FnRotate returns true. -/
import Derived.Test.YtbpbbmamgajimaaScene2
import Derived.Test.YtbpbbmamgajimaaMoves
import Derived.Test.YtbpbbmamgajimaaConcatInt
import Derived.Test.YtbpbbmamgajimaaLast4
set_option linter.all false
namespace Go.Proofs.Ytbpbbmamgajimaa
open Go.RowKit
namespace Bead
set_option maxRecDepth 100000

theorem nats_take {w : World} {b o n c t : Nat} {E : List Nat} (h : Nats w (.slice (some ⟨b, o, none⟩) n c) E) (ht : t ≤ E.length) : Sl w (.slice (some ⟨b, o, none⟩) t c) t (ints (E.take t)) := by
  refine ⟨_, _, rfl, fun hne => ⟨b, o, rfl, fun k x hx => ?_⟩⟩
  obtain ⟨a, cap, q, hc⟩ := h
  simp only [Value.slice.injEq] at q
  have hne' : ints E ≠ [] := by
    intro z
    have : E = [] := by simpa [ints] using z
    subst this; simp [ints] at hne
  obtain ⟨b', o', hb, hcc⟩ := hc hne'
  rw [← q.1] at hb
  simp only [Option.some.injEq, Addr.mk.injEq] at hb
  obtain ⟨rfl, rfl, _⟩ := hb
  refine hcc k x ?_
  have hk := (List.getElem?_eq_some_iff.1 hx).1
  simp only [ints, List.length_map, List.length_take] at hk
  simp only [ints, List.map_take] at hx
  rw [List.getElem?_take_of_lt (by omega)] at hx
  exact hx
theorem nats_drop {w : World} {b o n c t : Nat} {ad : Option Addr} {E : List Nat} (h : Nats w (.slice (some ⟨b, o, none⟩) n c) E) (had : t < E.length → ad = some ⟨b, o + t, none⟩) (c' : Nat) : Sl w (.slice ad (E.length - t) c') (E.length - t) (ints (E.drop t)) := by
  refine ⟨_, _, rfl, fun hne => ?_⟩
  have ht : t < E.length := by
    rcases Nat.lt_or_ge t E.length with q | q
    · exact q
    · rw [List.drop_of_length_le q] at hne; simp [ints] at hne
  refine ⟨b, o + t, had ht, fun k x hx => ?_⟩
  obtain ⟨a, cap, q, hc⟩ := h
  simp only [Value.slice.injEq] at q
  have hne' : ints E ≠ [] := by
    intro z
    have : E = [] := by simpa [ints] using z
    subst this; simp at ht
  obtain ⟨b', o', hb, hcc⟩ := hc hne'
  rw [← q.1] at hb
  simp only [Option.some.injEq, Addr.mk.injEq] at hb
  obtain ⟨rfl, rfl, _⟩ := hb
  rw [Nat.add_assoc]
  refine hcc (t + k) x ?_
  simp only [ints, List.map_drop] at hx
  rw [List.getElem?_drop] at hx
  exact hx
/-- The loop: the calls. -/
structure TCAt (wo wr : World) (n k : Nat) (v : Value) : Prop where
  own : wr.ownsRow wo.heap.size 29 8 v (2 * k) ((turnC n k).flatMap Cl.cells)
  below : Below wo.heap.size wo wr
theorem TCAt.next {wo wr w2 : World} {n k : Nat} {v v' : Value} {o : Obj} {X : List Value} (h : TCAt wo wr n k v) (hX : X = (cEnd false 0).cells ++ (cMv 8 (n + 2 * k) 0).cells)
    (hown : w2.ownsRow wo.heap.size 29 8 v' (2 * k + 2) ((turnC n k).flatMap Cl.cells ++ X)) (hg : (wr.alloc o).grownBy w2 v.ownBlock) : TCAt wo w2 n (k + 1) v' := by
  refine ⟨?_, below_grown (h.below.alloc h.below.size o) (h.own.alloc o) (Nat.le_refl _) hg⟩
  rw [turnC_succ, cells_app]
  subst hX
  simpa [Nat.mul_add] using hown
theorem tc_cells (n k : Nat) : [.int .i64 15, .int .i64 0, .int .i64 0, .int .i64 0, .int .i64 0, .int .i64 0, .int .i64 0, .string ⟨#[]⟩, .int .i64 8, .int .i64 0, .int .i64 0, .int .i64 ((n : Int) + 2 * (k : Int)), .int .i64 0, .int .i64 0, .int .i64 0, .string ⟨#[]⟩] = (cEnd false 0).cells ++ (cMv 8 (n + 2 * k) 0).cells := by
  have : ((n + 2 * k : Nat) : Int) = (n : Int) + 2 * (k : Int) := by omega
  simp only [Cl.cells, cEnd, cMv, this]
  rfl
theorem turnC_length (n : Nat) : ∀ t, (turnC n t).length = 2 * t
  | 0 => rfl
  | t + 1 => by rw [turnC_succ, List.length_append, turnC_length n t]; simp; omega

set_option maxHeartbeats 8000000 in
theorem rotate_c {w : World} {v : Value} {cs : List Cl} (s : Scr w v cs) (hn : cs.length ≤ 1048576) (n m : Int) :
    Calls Try.prog 8 #[v, .int .i64 n, .int .i64 m] w fun r w' => r = .returned (.bool true) ∧ Below w.heap.size w w' := by
  have ST := Lib.hid (set_f s hn n)
  clear s
  go_enter Try.func8, Try.ntmps8
  go_wp2_with fail
  refine ST.out.mono ?_
  rintro r w1 ⟨hb1, hcase⟩
  have B1 := Lib.hid hb1
  clear hb1 ST
  rcases hcase with ⟨l, vs, ve, rfl, hsc, hok0, hl0, hs1, hn1, _, _, hcap⟩ | rfl
  · have SC := Lib.hid hsc; have S1 := Lib.hid hs1
    generalize hns : namedC cs = ns at *
    clear hns hsc hok0 hl0
    obtain ⟨y1, y2, rfl⟩ := hs1.form
    have NL := names_length (m := runFrom Md.init ns) ((runFrom Md.init ns).seq l)
    have hlen := scene_len SC.out
    have LN := SC.out.len
    have RL := Lib.hid (fun t ht => rotate_law (t := t) SC.out ht)
    have HNL := Lib.hid NL
    generalize hEE : (runFrom Md.init ns).names ((runFrom Md.init ns).seq l) = E at *
    have hE500 : E.length ≤ 500 := by omega
    obtain ⟨x1, x2, rfl⟩ := hn1.form
    have hcp : E.length ≤ x2 := hcap _ _ _ rfl
    have N1 := Lib.hid hn1
    clear hs1 hn1 hEE NL hlen hcap
    by_cases hE0 : E.length = 0
    · clear RL HNL hcp
      go_wp2
      go_ret
      exact ⟨rfl, B1.out.trans ((below1 w1 _).mono B1.out.size)⟩
    have qE0 : ((E.length : Int) == 0) = false := by
      have : ¬ ((E.length : Int) = 0) := by omega
      simpa using this
    obtain ⟨eb, eo, ec, hev, hecell⟩ := N1.out.cells (by intro q; rw [q] at hE0; simp at hE0)
    simp only [Value.slice.injEq] at hev
    obtain ⟨rfl, hzz, rfl⟩ := hev
    clear hzz hecell
    obtain ⟨i, hi, hm⟩ := umod m (k := E.length + 1) (by omega) (by omega)
    rw [show ((E.length + 1 : Nat) : Int) = (E.length : Int) + 1 by omega] at hm
    have BX := Lib.hid (heap_alloc_new w1 (.cells #[.slice y1 ns.length y2, .int .i64 (l : Nat), .slice (some ⟨eb, eo, none⟩) E.length x2] 46))
    have SX := Lib.hid (S1.out.later (below1 w1 (.cells #[.slice y1 ns.length y2, .int .i64 (l : Nat), .slice (some ⟨eb, eo, none⟩) E.length x2] 46)))
    have NX := Lib.hid (N1.out.later (below1 w1 (.cells #[.slice y1 ns.length y2, .int .i64 (l : Nat), .slice (some ⟨eb, eo, none⟩) E.length x2] 46)))
    have B1x := Lib.hid (B1.out.trans ((below1 w1 (.cells #[.slice y1 ns.length y2, .int .i64 (l : Nat), .slice (some ⟨eb, eo, none⟩) E.length x2] 46)).mono B1.out.size))
    have hzx : w1.heap.size + 1 = (w1.alloc (.cells #[.slice y1 ns.length y2, .int .i64 (l : Nat), .slice (some ⟨eb, eo, none⟩) E.length x2] 46)).heap.size := by simp
    go_wp2_with fail
    rw [hm]
    clear hE0 qE0 hm
    generalize w1.alloc (.cells #[.slice y1 ns.length y2, .int .i64 (l : Nat), .slice (some ⟨eb, eo, none⟩) E.length x2] 46) = wx at *
    go_loopg [9, 39] i (fun n vc k wr => ∃ t, t + n = i ∧ k = .int .i64 t ∧ TCAt wx wr ns.length t vc)
    case atStart => exact ⟨0, by omega, rfl, World.ownsRow_nil _ _ _ _, Below.refl _ _⟩
    case round =>
      obtain ⟨t, ht, rfl, hT⟩ := hrel
      have BXr := heap_later BX.out hT.below
      have b0 := cell_of_heap (o := 0) BXr rfl
      have b1 := cell_of_heap (o := 1) BXr rfl
      have b2 := cell_of_heap (o := 2) BXr rfl
      have lw : wx.heap.size ≤ wr.heap.size := hT.below.size
      by_cases hk0 : gk = 0
      · subst hk0
        obtain rfl : i = t := by omega
        have hTr := hT.below
        obtain ⟨t1, t2, rfl⟩ := own_len hT.own
        have tl := Lib.hid (turnC_length ns.length i)
        have SA : Hid (Scr wr (.slice t1 (2 * i) t2) (turnC ns.length i)) := Scr.of_own (B := wx.heap.size) (by rw [tl.out]; exact hT.own) (fun c hc => by
          simp only [turnC, List.mem_flatMap, List.mem_cons, List.not_mem_nil, or_false] at hc
          obtain ⟨k, _, rfl | rfl⟩ := hc <;> exact vl_zero_ok)
        have LAW := Lib.hid (RL.out i (by have := HNL.out; omega))
        have HSW : Hid (∀ W, Below wr.heap.size wr W → (fun X : World => X.cell? ⟨w1.heap.size, 0, none⟩ = some (.slice y1 ns.length y2) ∧ X.cell? ⟨w1.heap.size, 1, none⟩ = some (.int .i64 (l : Nat)) ∧ X.cell? ⟨w1.heap.size, 2, none⟩ = some (.slice (some ⟨eb, eo, none⟩) E.length x2)) W) := fun W hb => ⟨cell_of_heap (o := 0) (heap_later BXr hb) rfl, cell_of_heap (o := 1) (heap_later BXr hb) rfl, cell_of_heap (o := 2) (heap_later BXr hb) rfl⟩
        have SN := Lib.hid (SX.out.later hTr)
        have NN := Lib.hid (NX.out.later hTr)
        have Br := Lib.hid (B1x.out.trans (hTr.mono B1x.out.size))
        clear hT hTr b0 b1 b2 BXr ht
        go_wp2_with fail
        refine wp_region_T (fun X : World => X.cell? ⟨w1.heap.size, 0, none⟩ = some (.slice y1 ns.length y2) ∧ X.cell? ⟨w1.heap.size, 1, none⟩ = some (.int .i64 (l : Nat)) ∧ X.cell? ⟨w1.heap.size, 2, none⟩ = some (.slice (some ⟨eb, eo, none⟩) E.length x2)) [2, 5] [] run_mixed ?_
        simp only [List.size_toArray, List.length_cons, List.length_nil]
        have hbd : Below wr.heap.size wr wr.drew := (Below.refl _ wr).drew
        have HS := HSW.out _ hbd
        refine wpT_loadG (i := 0) (v := ?va0) rfl (by kernel_rfl) (fun _ _ _ h => h) rfl ?ya0 HS ?ra0
        case ya0 => ((intro wz hSw; (try dsimp only at hSw); go_split_ands; go_simp); try with_reducible rfl)
        try simp only [Act.put, List.setIfInBounds_toArray, List.set_cons_zero, List.set_cons_succ]
        refine wpT_takeG (i := 1) (v := ?va1) rfl (by kernel_rfl) (fun _ _ _ h => h) rfl ?ya1 ?ra1
        case ya1 => ((intro wz; go_simp); try with_reducible rfl)
        try simp only [Act.put, List.setIfInBounds_toArray, List.set_cons_zero, List.set_cons_succ]
        refine wpT_takeG (i := 3) (v := ?va3) rfl (by kernel_rfl) (fun _ _ _ h => h) rfl ?ya3 ?ra3
        case ya3 => ((intro wz; go_simp); try with_reducible rfl)
        try simp only [Act.put, List.setIfInBounds_toArray, List.set_cons_zero, List.set_cons_succ]
        refine wpT_loadG (i := 4) (v := ?va4) rfl (by kernel_rfl) (fun _ _ _ h => h) rfl ?ya4 HS ?ra4
        case ya4 => ((intro wz hSw; (try dsimp only at hSw); go_split_ands; go_simp); try with_reducible rfl)
        try simp only [Act.put, List.setIfInBounds_toArray, List.set_cons_zero, List.set_cons_succ]
        refine wpT_runG (i := 2) (by kernel_rfl) rfl rfl ?_
        go_simp
        refine (with_c (l := l) (cl := turnC ns.length i) (SN.out.later hbd) (SA.out.later hbd) ⟨_, _, _, rfl⟩ (by rw [tl.out]; omega)).mono ?_
        rintro r w4 ⟨v4, rfl, s4, hb4⟩
        have H4 := Lib.hid (hbd.trans hb4)
        refine ⟨cond_keep (by decide) (HSW.out _ H4.out), ?_⟩
        refine wpT_runG (i := 5) (by kernel_rfl) rfl rfl ?_
        go_simp
        refine (forward_c s4 LAW.out.ok LAW.out.lst (by decide) (by rw [List.length_append, List.length_map, tl.out]; omega)).mono ?_
        rintro r w5 ⟨v5, g5, rfl, _, o5, hb5⟩
        have H5 := Lib.hid (H4.out.trans (hb5.mono H4.out.size))
        have O5 : Hid (Nats w5 g5 (E.drop i ++ E.take i)) := by
          rw [LAW.out.len, LAW.out.fwd] at o5; exact Nats.of_own o5
        refine ⟨cond_keep (by decide) (HSW.out _ H5.out), ?_⟩
        clear HS hbd hb4 s4 hb5 o5
        refine wpT_takeG (i := 6) (v := ?vb6) rfl (by kernel_rfl) (fun _ _ _ h => h) rfl ?yb6 ?rb6
        case yb6 => ((intro wz; go_simp); try with_reducible rfl)
        try simp only [Act.put, List.setIfInBounds_toArray, List.set_cons_zero, List.set_cons_succ]
        refine wpT_takeG (i := 7) (v := ?vb7) rfl (by kernel_rfl) (fun _ _ _ h => h) rfl ?yb7 ?rb7
        case yb7 => ((intro wz; go_simp); try with_reducible rfl)
        try simp only [Act.put, List.setIfInBounds_toArray, List.set_cons_zero, List.set_cons_succ]
        refine wpT_takeG (i := 8) (v := ?vb8) rfl (by kernel_rfl) (fun _ _ _ h => h) rfl ?yb8 ?rb8
        case yb8 => ((intro wz; go_simp); try with_reducible rfl)
        try simp only [Act.put, List.setIfInBounds_toArray, List.set_cons_zero, List.set_cons_succ]
        refine wpT_takeG (i := 9) (v := ?vb9) rfl (by kernel_rfl) (fun _ _ _ h => h) rfl ?yb9 ?rb9
        case yb9 => ((intro wz; go_simp); try with_reducible rfl)
        try simp only [Act.put, List.setIfInBounds_toArray, List.set_cons_zero, List.set_cons_succ]
        refine wpT_takeG (i := 10) (v := ?vb10) rfl (by kernel_rfl) (fun _ _ _ h => h) rfl ?yb10 ?rb10
        case yb10 => ((intro wz; go_simp); try with_reducible rfl)
        try simp only [Act.put, List.setIfInBounds_toArray, List.set_cons_zero, List.set_cons_succ]
        refine wpT_takeG (i := 11) (v := ?vb11) rfl (by kernel_rfl) (fun _ _ _ h => h) rfl ?yb11 ?rb11
        case yb11 => ((intro wz; go_simp); try with_reducible rfl)
        try simp only [Act.put, List.setIfInBounds_toArray, List.set_cons_zero, List.set_cons_succ]
        refine wpT_takeG (i := 12) (v := ?vb12) rfl (by kernel_rfl) (fun _ _ _ h => h) rfl ?yb12 ?rb12
        case yb12 => ((intro wz; go_simp); try with_reducible rfl)
        try simp only [Act.put, List.setIfInBounds_toArray, List.set_cons_zero, List.set_cons_succ]
        refine wpT_done (by kernel_rfl) ?_ _
        go_wp2_with fail
        refine wp_region_T (fun X : World => X.cell? ⟨w1.heap.size, 0, none⟩ = some (.slice y1 ns.length y2) ∧ X.cell? ⟨w1.heap.size, 1, none⟩ = some (.int .i64 (l : Nat)) ∧ X.cell? ⟨w1.heap.size, 2, none⟩ = some (.slice (some ⟨eb, eo, none⟩) E.length x2)) [8, 9] [] run_mixed ?_
        simp only [List.size_toArray, List.length_cons, List.length_nil]
        have hbd : Below wr.heap.size wr w5.drew := H5.out.drew
        have O6 : Hid (Nats w5.drew g5 (E.drop i ++ E.take i)) := O5.out
        generalize w5.drew = w6 at *
        have HS2 := HSW.out _ hbd
        obtain ⟨ad, HAD⟩ : ∃ ad : Option Addr, ((x2 = i → ad = some ⟨eb, eo, none⟩) ∧ (¬ x2 = i → ad = some ⟨eb, eo + i, none⟩)) := by
          by_cases q : x2 = i
          · exact ⟨_, fun _ => rfl, fun z => absurd q z⟩
          · exact ⟨_, fun z => absurd z q, fun _ => rfl⟩
        have HADh := Lib.hid HAD
        have hiE : i ≤ E.length := by omega
        have hiI : (i : Int) ≤ (E.length : Int) := by omega
        have hi0 : 0 ≤ (i : Int) := by omega
        have hix : i ≤ x2 := by omega
        clear HAD
        refine wpT_takeG (i := 0) (v := ?vc0) rfl (by kernel_rfl) (fun _ _ _ h => h) rfl ?yc0 ?rc0
        case yc0 => ((intro wz; go_simp); try with_reducible rfl)
        try simp only [Act.put, List.setIfInBounds_toArray, List.set_cons_zero, List.set_cons_succ]
        refine wpT_loadG (i := 1) (v := ?vc1) rfl (by kernel_rfl) (fun _ _ _ h => h) rfl ?yc1 HS2 ?rc1
        case yc1 => ((intro wz hSw; (try dsimp only at hSw); go_split_ands; go_simp); try with_reducible rfl)
        try simp only [Act.put, List.setIfInBounds_toArray, List.set_cons_zero, List.set_cons_succ]
        refine wpT_takeG (i := 2) (v := ?vc2) rfl (by kernel_rfl) (fun _ _ _ h => h) rfl ?yc2 ?rc2
        case yc2 => ((intro wz; go_simp); try with_reducible rfl)
        try simp only [Act.put, List.setIfInBounds_toArray, List.set_cons_zero, List.set_cons_succ]
        refine wpT_takeG (i := 3) (v := .slice ad (E.length - i) (x2 - i)) rfl (by kernel_rfl) (fun _ _ _ h => h) rfl ?ys3 ?rs3
        case ys3 =>
          intro wz
          by_cases q : x2 = i
          · rw [HADh.out.1 q]; go_simp
          · rw [HADh.out.2 q]; go_simp
        try simp only [Act.put, List.setIfInBounds_toArray, List.set_cons_zero, List.set_cons_succ]
        refine wpT_takeG (i := 4) (v := ?vd4) rfl (by kernel_rfl) (fun _ _ _ h => h) rfl ?yd4 ?rd4
        case yd4 => ((intro wz; go_simp); try with_reducible rfl)
        try simp only [Act.put, List.setIfInBounds_toArray, List.set_cons_zero, List.set_cons_succ]
        refine wpT_loadG (i := 5) (v := ?vd5) rfl (by kernel_rfl) (fun _ _ _ h => h) rfl ?yd5 HS2 ?rd5
        case yd5 => ((intro wz hSw; (try dsimp only at hSw); go_split_ands; go_simp); try with_reducible rfl)
        try simp only [Act.put, List.setIfInBounds_toArray, List.set_cons_zero, List.set_cons_succ]
        refine wpT_takeG (i := 6) (v := ?vd6) rfl (by kernel_rfl) (fun _ _ _ h => h) rfl ?yd6 ?rd6
        case yd6 => ((intro wz; go_simp); try with_reducible rfl)
        try simp only [Act.put, List.setIfInBounds_toArray, List.set_cons_zero, List.set_cons_succ]
        refine wpT_takeG (i := 7) (v := ?vd7) rfl (by kernel_rfl) (fun _ _ _ h => h) rfl ?yd7 ?rd7
        case yd7 => ((intro wz; go_simp); try with_reducible rfl)
        try simp only [Act.put, List.setIfInBounds_toArray, List.set_cons_zero, List.set_cons_succ]
        refine wpT_runG (i := 8) (by kernel_rfl) rfl rfl ?_
        go_simp
        have hb6 := hbd
        have B8 := below1 w6 (.cells #[.slice ad (E.length - i) (x2 - i), .slice (some ⟨eb, eo, none⟩) i x2] 30)
        have G8 := heap_alloc_new w6 (.cells #[.slice ad (E.length - i) (x2 - i), .slice (some ⟨eb, eo, none⟩) i x2] 30)
        have H8 := Lib.hid (hb6.trans (B8.mono hb6.size))
        have H68 := Lib.hid B8
        generalize hw8 : w6.alloc (.cells #[.slice ad (E.length - i) (x2 - i), .slice (some ⟨eb, eo, none⟩) i x2] 30) = w8 at *
        refine ⟨cond_keep (by decide) (HSW.out _ H8.out), ?_⟩
        refine wpT_runG (i := 9) (by kernel_rfl) rfl rfl ?_
        go_simp
        have hadn : ad ≠ none := by
          by_cases q : x2 = i
          · rw [HADh.out.1 q]; simp
          · rw [HADh.out.2 q]; simp
        have fa : Value.fair (.slice ad (E.length - i) (x2 - i)) := fun n c q => by
          injection q with q1 q2 q3
          exact absurd q1 hadn
        have fb : Value.fair (.slice (some ⟨eb, eo, none⟩) i x2) := fun n c q => by
          injection q with q1 q2 q3
          cases q1
        refine (concatInt_c (cell_of_heap (o := 0) G8 rfl) (cell_of_heap (o := 1) G8 rfl) (n1 := E.length - i) (n2 := i) (nats_drop (NN.out.later H8.out) (fun q => HADh.out.2 (by omega)) _) (nats_take (NN.out.later H8.out) hiE) (by simp [ints]) (by simp [ints]; omega) (ints_one _) (ints_one _) fa fb (by omega)).mono ?_
        rintro r w9 ⟨v9, rfl, o9, hb9⟩
        have H9 := Lib.hid (H8.out.trans (hb9.mono H8.out.size))
        refine ⟨cond_keep (by decide) (HSW.out _ H9.out), ?_⟩
        have WN : Nats w9 v9 (E.drop i ++ E.take i) := by
          have := Sl.of_own o9
          show Sl _ _ _ _
          rw [ints_append, List.length_append, List.length_drop, List.length_take, Nat.min_eq_left hiE]
          exact this
        have G9 : Nats w9 g5 (E.drop i ++ E.take i) := (O6.out.later H68.out).later hb9
        have EQ := Lib.hid (equalInt_c G9 WN (by simp; omega))
        have B9 := Lib.hid (Br.out.trans (H9.out.mono Br.out.size))
        clear HS2 hbd hb6 B8 G8 hw8 o9 hb9 WN G9
        refine wpT_takeG (i := 10) (v := ?ve10) rfl (by kernel_rfl) (fun _ _ _ h => h) rfl ?ye10 ?re10
        case ye10 => ((intro wz; go_simp); try with_reducible rfl)
        try simp only [Act.put, List.setIfInBounds_toArray, List.set_cons_zero, List.set_cons_succ]
        refine wpT_done (by kernel_rfl) ?_ _
        go_wp2_with fail
        refine EQ.out.mono ?_
        rintro r wf ⟨rfl, d, rfl⟩
        have BF : Hid (Below w.heap.size w (w9.drewN d)) := Below.drewN' B9.out d
        clear EQ
        go_wp2
        go_ret
        exact ⟨rfl, BF.out⟩
      · have HT := Lib.hid hT; have HH := Lib.hid ht
        have hti : t < i := by omega
        clear hT ht BXr
        go_wp2_with (at_builtin; refine wpList_app2 rfl (.tmp 42) (.tmp 51) 22 rfl wx.heap.size 29 _ 8 72 Try.underlying22 Try.infoICall rfl (by decide) _ _ _ rfl (HT.out.own.alloc _) _ 2 [.int .i64 15, .int .i64 0, .int .i64 0, .int .i64 0, .int .i64 0, .int .i64 0, .int .i64 0, .string ⟨#[]⟩, .int .i64 8, .int .i64 0, .int .i64 0, .int .i64 ((ns.length : Int) + 2 * (t : Int)), .int .i64 0, .int .i64 0, .int .i64 0, .string ⟨#[]⟩] rfl (sl_at' _ _ _ _ _ _ (by simp)) rfl (by simp [Value.oneCell']) (.inr (.inr (by decide))) (by omega) (by decide) (by simp; omega) ?_; intro vc' w5 hown hg hnn; have N5 := Lib.hid (HT.out.next (tc_cells ns.length t) hown hg); clear hown hg hnn)
        go_roundg (gk - 1)
        case measure => omega
        case rel => exact ⟨t + 1, by have := HH.out; omega, by go_num, N5.out⟩
  · simp only [scene0]
    go_wp2
    go_ret
    refine ⟨rfl, ?_⟩
    exact B1.out.trans ((below1 _ _).mono B1.out.size)
end Bead
end Go.Proofs.Ytbpbbmamgajimaa
