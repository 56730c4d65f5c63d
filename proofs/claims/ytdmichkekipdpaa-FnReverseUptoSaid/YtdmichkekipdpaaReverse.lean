/- FnReverse returns true. -/
import Derived.Test.YtdmichkekipdpaaArrange
import Derived.Test.YtdmichkekipdpaaLast4
set_option linter.all false
namespace Go.Proofs.Ytdmichkekipdpaa
open Go.RowKit
namespace Bead
set_option maxRecDepth 100000

/-- A round: two rows of calls that grow side by side. -/
structure TwoAt (w wr : World) (A B : List Cl) (k : Nat) (va vb : Value) : Prop where
  one : wr.ownsRow w.heap.size 29 8 va k ((A.take k).flatMap Cl.cells)
  two : wr.ownsRow w.heap.size 29 8 vb k ((B.take k).flatMap Cl.cells)
  dis : ∀ b, va.ownBlock = some b → ¬ vb.ownBlock = some b
  below : Below w.heap.size w wr
theorem cl_snoc {A : List Cl} {k : Nat} {a : Cl} (h : A[k]? = some a) : (A.take (k + 1)).flatMap Cl.cells = (A.take k).flatMap Cl.cells ++ a.cells := by
  obtain ⟨hk, e⟩ := List.getElem?_eq_some_iff.1 h
  rw [List.take_succ_eq_append_getElem hk, e]; simp
theorem TwoAt.app1 {w wr w5 : World} {A B : List Cl} {k : Nat} {va vb va' : Value} {a : Cl} {o : Obj} (h : TwoAt w wr A B k va vb) (ha : A[k]? = some a)
    (hown : w5.ownsRow w.heap.size 29 8 va' (k + 1) ((A.take k).flatMap Cl.cells ++ a.cells)) (hg : (wr.alloc o).grownBy w5 va.ownBlock) (hnn : ∀ b, va'.ownBlock = some b → va.ownBlock = some b ∨ (wr.alloc o).heap.size ≤ b) :
    w5.ownsRow w.heap.size 29 8 va' (k + 1) ((A.take (k + 1)).flatMap Cl.cells) ∧ w5.ownsRow w.heap.size 29 8 vb k ((B.take k).flatMap Cl.cells) ∧ (∀ b, va'.ownBlock = some b → ¬ vb.ownBlock = some b) ∧ Below w.heap.size w w5 := by
  have hk := grown1 hg
  refine ⟨by rw [cl_snoc ha]; exact hown, own_keeps h.two hk (fun b q z => h.dis b z q), fun b q z => ?_, h.below.trans (hk.below (fun b hb _ z => by have := (h.one.lt b z).1; omega) h.below.size)⟩
  rcases hnn b q with r | r
  · exact h.dis b r z
  · have := (h.two.lt b z).2
    simp at r
    omega
theorem TwoAt.app2 {w w5 w6 : World} {A B : List Cl} {k : Nat} {va vb vb' : Value} {b : Cl} {o : Obj} (h1 : w5.ownsRow w.heap.size 29 8 va (k + 1) ((A.take (k + 1)).flatMap Cl.cells)) (h2 : w5.ownsRow w.heap.size 29 8 vb k ((B.take k).flatMap Cl.cells)) (h3 : ∀ b, va.ownBlock = some b → ¬ vb.ownBlock = some b) (h4 : Below w.heap.size w w5) (hb : B[k]? = some b)
    (hown : w6.ownsRow w.heap.size 29 8 vb' (k + 1) ((B.take k).flatMap Cl.cells ++ b.cells)) (hg : (w5.alloc o).grownBy w6 vb.ownBlock) (hnn : ∀ b, vb'.ownBlock = some b → vb.ownBlock = some b ∨ (w5.alloc o).heap.size ≤ b) : TwoAt w w6 A B (k + 1) va vb' := by
  have hk := grown1 hg
  refine ⟨own_keeps h1 hk (fun b q z => h3 b q z), by rw [cl_snoc hb]; exact hown, fun b q z => ?_, h4.trans (hk.below (fun b hb _ z => by have := (h2.lt b z).1; omega) h4.size)⟩
  rcases hnn b z with r | r
  · exact h3 b q r
  · have := (h1.lt b q).2
    simp at r
    omega

set_option maxHeartbeats 8000000 in
theorem reverse_c {w : World} {v : Value} {cs : List Cl} (s : Scr w v cs) (hn : cs.length ≤ 1048576) (n : Int) :
    Calls Try.prog 10 #[v, .int .i64 n] w fun r w' => r = .returned (.bool true) ∧ Below w.heap.size w w' := by
  have ST := Lib.hid (set_c s hn n)
  clear s
  go_enter Try.func10, Try.ntmps10
  go_wp2_with fail
  refine ST.out.mono ?_
  rintro r w1 ⟨hb1, hcase⟩
  have B1 := Lib.hid hb1
  clear hb1 ST
  rcases hcase with ⟨l, vs, ve, rfl, hsc, hok0, hl0, hs1, hn1⟩ | rfl
  · have SC := Lib.hid hsc; have S1 := Lib.hid hs1
    generalize hns : namedC cs = ns at *
    clear hns hsc hok0 hl0
    obtain ⟨y1, y2, rfl⟩ := hs1.form
    have NL := names_length (m := runFrom Md.init ns) ((runFrom Md.init ns).seq l)
    have hlen := scene_len SC.out
    obtain ⟨L1, L2, L3, L4, L5⟩ := reverse_law SC.out _ _ rfl rfl
    have HL1 := Lib.hid L1; have HL2 := Lib.hid L2; have HL3 := Lib.hid L3; have HL4 := Lib.hid L4; have HL5 := Lib.hid L5
    clear L1 L2 L3 L4 L5
    have SLEN := Lib.hid NL
    generalize hEE : (runFrom Md.init ns).names ((runFrom Md.init ns).seq l) = E at *
    have hE500 : E.length ≤ 500 := by omega
    have LN := SC.out.len
    have NT := Lib.hid (fun o => hn1.later (below1 w1 o))
    obtain ⟨x1, x2, rfl⟩ := hn1.form
    have BX := Lib.hid (heap_alloc_new w1 (.cells #[.slice y1 ns.length y2, .int .i64 (l : Nat), .slice x1 E.length x2] 34))
    have SX := Lib.hid (S1.out.later (below1 w1 (.cells #[.slice y1 ns.length y2, .int .i64 (l : Nat), .slice x1 E.length x2] 34)))
    have NX := Lib.hid (NT.out (.cells #[.slice y1 ns.length y2, .int .i64 (l : Nat), .slice x1 E.length x2] 34))
    have B1x := Lib.hid (B1.out.trans ((below1 w1 (.cells #[.slice y1 ns.length y2, .int .i64 (l : Nat), .slice x1 E.length x2] 34)).mono B1.out.size))
    have hzx : w1.heap.size + 1 = (w1.alloc (.cells #[.slice y1 ns.length y2, .int .i64 (l : Nat), .slice x1 E.length x2] 34)).heap.size := by simp
    clear hs1 hn1 hEE NL hlen NT
    go_wp2_with fail
    generalize w1.alloc (.cells #[.slice y1 ns.length y2, .int .i64 (l : Nat), .slice x1 E.length x2] 34) = wx at *
    go_loopg [7, 8, 25] E.length (fun n va vb k wr => ∃ j, j + n = E.length ∧ k = .int .i64 j ∧ TwoAt wx wr (E.map fun i => cMv 7 i 0) (E.reverse.map fun i => cMv 7 i 0) j va vb)
    case atStart => exact ⟨0, by omega, rfl, World.ownsRow_nil _ _ _ _, World.ownsRow_nil _ _ _ _, fun b q => by simp [Value.ownBlock] at q, Below.refl _ _⟩
    case round =>
      obtain ⟨j, hj, rfl, hT⟩ := hrel
      have BXr := heap_later BX.out hT.below
      have b0 := cell_of_heap (o := 0) BXr rfl
      have b1 := cell_of_heap (o := 1) BXr rfl
      have b2 := cell_of_heap (o := 2) BXr rfl
      have lw : wx.heap.size ≤ wr.heap.size := hT.below.size
      by_cases hk0 : gk = 0
      · subst hk0
        obtain rfl : j = E.length := by omega
        have hTr := hT.below
        obtain ⟨t1, t2, rfl⟩ := own_len hT.one
        obtain ⟨s1, s2, rfl⟩ := own_len hT.two
        have e1 : (E.map fun i => cMv 7 i 0).take E.length = E.map fun i => cMv 7 i 0 := List.take_of_length_le (by simp)
        have e2 : (E.reverse.map fun i => cMv 7 i 0).take E.length = E.reverse.map fun i => cMv 7 i 0 := List.take_of_length_le (by simp)
        have la : (E.map fun i => cMv 7 i 0).length = E.length := by simp
        have lb : (E.reverse.map fun i => cMv 7 i 0).length = E.length := by simp
        have o1 := hT.one; have o2 := hT.two
        rw [e1] at o1; rw [e2] at o2
        have SA : Hid (Scr wr (.slice t1 E.length t2) (E.map fun i => cMv 7 i 0)) := Scr.of_own (B := wx.heap.size) (by rw [la]; exact o1) (fun c hc => by obtain ⟨i, _, rfl⟩ := List.mem_map.1 hc; exact vl_zero_ok)
        have SB : Hid (Scr wr (.slice s1 E.length s2) (E.reverse.map fun i => cMv 7 i 0)) := Scr.of_own (B := wx.heap.size) (by rw [lb]; exact o2) (fun c hc => by obtain ⟨i, _, rfl⟩ := List.mem_map.1 hc; exact vl_zero_ok)
        have HSW : Hid (∀ W, Below wr.heap.size wr W → (fun X : World => X.cell? ⟨w1.heap.size, 0, none⟩ = some (.slice y1 ns.length y2) ∧ X.cell? ⟨w1.heap.size, 1, none⟩ = some (.int .i64 (l : Nat)) ∧ X.cell? ⟨w1.heap.size, 2, none⟩ = some (.slice x1 E.length x2)) W) := fun W hb => ⟨cell_of_heap (o := 0) (heap_later BXr hb) rfl, cell_of_heap (o := 1) (heap_later BXr hb) rfl, cell_of_heap (o := 2) (heap_later BXr hb) rfl⟩
        have SN := Lib.hid (SX.out.later hTr)
        have NN := Lib.hid (NX.out.later hTr)
        have Br := Lib.hid (B1x.out.trans (hTr.mono B1x.out.size))
        clear hT hTr e1 e2 o1 o2 la lb b0 b1 b2 BXr hj
        go_wp2_with fail
        refine wp_region_T (fun X : World => X.cell? ⟨w1.heap.size, 0, none⟩ = some (.slice y1 ns.length y2) ∧ X.cell? ⟨w1.heap.size, 1, none⟩ = some (.int .i64 (l : Nat)) ∧ X.cell? ⟨w1.heap.size, 2, none⟩ = some (.slice x1 E.length x2)) [2, 5] [] run_mixed ?_
        simp only [List.size_toArray, List.length_cons, List.length_nil]
        have hbd : Below wr.heap.size wr wr.drew := (Below.refl _ wr).drew
        have HS := HSW.out _ hbd
        refine wpT_loadG (i := 0) (v := ?va0) rfl (by kernel_rfl) (fun _ _ _ h => h) rfl ?ya0 HS ?ra0
        case ya0 => ((intro wz hSw; (try dsimp only at hSw); go_split_ands; go_simp); try with_reducible rfl)
        try simp only [Act.put, List.setIfInBounds_toArray, List.set_cons_zero, List.set_cons_succ]
        refine wpT_takeG (i := 1) (v := ?va1) rfl (by kernel_rfl) (fun _ _ _ h => h) rfl ?ya1 ?ra1
        case ya1 => ((intro wz; go_simp); try with_reducible rfl)
        try simp only [Act.put, List.setIfInBounds_toArray, List.set_cons_zero, List.set_cons_succ]
        refine wpT_takeG (i := 3) (v := ?va3) rfl (by kernel_rfl) (fun _ _ _ h => h) rfl ?ya3 ?ra3
        case ya3 => ((intro wz; go_simp); try with_reducible rfl)
        try simp only [Act.put, List.setIfInBounds_toArray, List.set_cons_zero, List.set_cons_succ]
        refine wpT_loadG (i := 4) (v := ?va4) rfl (by kernel_rfl) (fun _ _ _ h => h) rfl ?ya4 HS ?ra4
        case ya4 => ((intro wz hSw; (try dsimp only at hSw); go_split_ands; go_simp); try with_reducible rfl)
        try simp only [Act.put, List.setIfInBounds_toArray, List.set_cons_zero, List.set_cons_succ]
        refine wpT_runG (i := 2) (by kernel_rfl) rfl rfl ?_
        go_simp
        refine (with_c (l := l) (cl := E.map fun i => cMv 7 i 0) (SN.out.later hbd) (SA.out.later hbd) ⟨_, _, _, rfl⟩ (by simp; omega)).mono ?_
        rintro r w4 ⟨v4, rfl, s4, hb4⟩
        have H4 := Lib.hid (hbd.trans hb4)
        refine ⟨cond_keep (by decide) (HSW.out _ H4.out), ?_⟩
        refine wpT_runG (i := 5) (by kernel_rfl) rfl rfl ?_
        go_simp
        refine (forward_c s4 HL1.out (by rw [runFrom_append]; exact run_isL_mono _ SC.out.lst) (by decide) (by simp; omega)).mono ?_
        rintro r w5 ⟨v5, g5, rfl, _, o5, hb5⟩
        have H5 := Lib.hid (H4.out.trans (hb5.mono H4.out.size))
        have O5 : Hid (w5.ownsRow w4.heap.size 3 1 g5 E.length (ints E.reverse)) := by
          rw [HL3.out, List.length_reverse, ← HL3.out, HL2.out, ← SLEN.out] at o5; exact o5
        have z4 := H4.out.size
        refine ⟨cond_keep (by decide) (HSW.out _ H5.out), ?_⟩
        clear HS hbd hb4 s4 hb5 o5
        refine wpT_takeG (i := 6) (v := ?vb6) rfl (by kernel_rfl) (fun _ _ _ h => h) rfl ?yb6 ?rb6
        case yb6 => ((intro wz; go_simp); try with_reducible rfl)
        try simp only [Act.put, List.setIfInBounds_toArray, List.set_cons_zero, List.set_cons_succ]
        refine wpT_takeG (i := 7) (v := ?vb7) rfl (by kernel_rfl) (fun _ _ _ h => h) rfl ?yb7 ?rb7
        case yb7 => ((intro wz; go_simp); try with_reducible rfl)
        try simp only [Act.put, List.setIfInBounds_toArray, List.set_cons_zero, List.set_cons_succ]
        refine wpT_takeG (i := 8) (v := ?vb8) rfl (by kernel_rfl) (fun _ _ _ h => h) rfl ?yb8 ?rb8
        case yb8 => ((intro wz; go_simp); try with_reducible rfl)
        try simp only [Act.put, List.setIfInBounds_toArray, List.set_cons_zero, List.set_cons_succ]
        refine wpT_takeG (i := 9) (v := ?vb9) rfl (by kernel_rfl) (fun _ _ _ h => h) rfl ?yb9 ?rb9
        case yb9 => ((intro wz; go_simp); try with_reducible rfl)
        try simp only [Act.put, List.setIfInBounds_toArray, List.set_cons_zero, List.set_cons_succ]
        refine wpT_takeG (i := 10) (v := ?vb10) rfl (by kernel_rfl) (fun _ _ _ h => h) rfl ?yb10 ?rb10
        case yb10 => ((intro wz; go_simp); try with_reducible rfl)
        try simp only [Act.put, List.setIfInBounds_toArray, List.set_cons_zero, List.set_cons_succ]
        refine wpT_takeG (i := 11) (v := ?vb11) rfl (by kernel_rfl) (fun _ _ _ h => h) rfl ?yb11 ?rb11
        case yb11 => ((intro wz; go_simp); try with_reducible rfl)
        try simp only [Act.put, List.setIfInBounds_toArray, List.set_cons_zero, List.set_cons_succ]
        refine wpT_takeG (i := 12) (v := ?vb12) rfl (by kernel_rfl) (fun _ _ _ h => h) rfl ?yb12 ?rb12
        case yb12 => ((intro wz; go_simp); try with_reducible rfl)
        try simp only [Act.put, List.setIfInBounds_toArray, List.set_cons_zero, List.set_cons_succ]
        refine wpT_done (by kernel_rfl) ?_ _
        go_wp2_with fail
        refine (reverseInt_c O5.out (by simp) (by omega)).mono ?_
        rintro r w6 ⟨rfl, o6, hk6⟩
        rw [List.reverse_reverse] at o6
        have H6 : Hid (Below wr.heap.size wr w6) := H5.out.trans (hk6.below (fun b hb _ z => by have := (O5.out.lt b z).1; omega) H5.out.size)
        have O6 := Lib.hid o6
        clear o6 hk6
        go_wp2_with fail
        refine wp_region_T (fun X : World => X.cell? ⟨w1.heap.size, 0, none⟩ = some (.slice y1 ns.length y2) ∧ X.cell? ⟨w1.heap.size, 1, none⟩ = some (.int .i64 (l : Nat)) ∧ X.cell? ⟨w1.heap.size, 2, none⟩ = some (.slice x1 E.length x2)) [5, 13, 14, 15, 18] [] run_mixed ?_
        simp only [List.size_toArray, List.length_cons, List.length_nil]
        have hbd : Below wr.heap.size wr w6.drew := H6.out.drew
        have HS2 := HSW.out _ hbd
        refine wpT_takeG (i := 0) (v := ?vc0) rfl (by kernel_rfl) (fun _ _ _ h => h) rfl ?yc0 ?rc0
        case yc0 => ((intro wz; go_simp); try with_reducible rfl)
        try simp only [Act.put, List.setIfInBounds_toArray, List.set_cons_zero, List.set_cons_succ]
        refine wpT_takeG (i := 1) (v := ?vc1) rfl (by kernel_rfl) (fun _ _ _ h => h) rfl ?yc1 ?rc1
        case yc1 => ((intro wz; go_simp); try with_reducible rfl)
        try simp only [Act.put, List.setIfInBounds_toArray, List.set_cons_zero, List.set_cons_succ]
        refine wpT_takeG (i := 2) (v := ?vc2) rfl (by kernel_rfl) (fun _ _ _ h => h) rfl ?yc2 ?rc2
        case yc2 => ((intro wz; go_simp); try with_reducible rfl)
        try simp only [Act.put, List.setIfInBounds_toArray, List.set_cons_zero, List.set_cons_succ]
        refine wpT_takeG (i := 3) (v := ?vc3) rfl (by kernel_rfl) (fun _ _ _ h => h) rfl ?yc3 ?rc3
        case yc3 => ((intro wz; go_simp); try with_reducible rfl)
        try simp only [Act.put, List.setIfInBounds_toArray, List.set_cons_zero, List.set_cons_succ]
        refine wpT_loadG (i := 4) (v := ?vc4) rfl (by kernel_rfl) (fun _ _ _ h => h) rfl ?yc4 HS2 ?rc4
        case yc4 => ((intro wz hSw; (try dsimp only at hSw); go_split_ands; go_simp); try with_reducible rfl)
        try simp only [Act.put, List.setIfInBounds_toArray, List.set_cons_zero, List.set_cons_succ]
        refine wpT_runG (i := 5) (by kernel_rfl) rfl rfl ?_
        go_simp
        refine (equalInt_c (w := w6.drew) (Nats.of_own O6.out.drew) (NN.out.later hbd) (by omega)).mono ?_
        rintro r w7 ⟨rfl, d, rfl⟩
        have H7 : Hid (Below wr.heap.size wr (w6.drew.drewN d)) := Below.drewN' hbd d
        generalize w6.drew.drewN d = w7 at *
        refine ⟨cond_keep (by decide) (HSW.out _ H7.out), ?_⟩
        have HS3 := HSW.out _ H7.out
        clear HS2 hbd
        refine wpT_takeG (i := 6) (v := ?vd6) rfl (by kernel_rfl) (fun _ _ _ h => h) rfl ?yd6 ?rd6
        case yd6 => ((intro wz; go_simp); try with_reducible rfl)
        try simp only [Act.put, List.setIfInBounds_toArray, List.set_cons_zero, List.set_cons_succ]
        refine wpT_takeG (i := 7) (v := ?vd7) rfl (by kernel_rfl) (fun _ _ _ h => h) rfl ?yd7 ?rd7
        case yd7 => ((intro wz; go_simp); try with_reducible rfl)
        try simp only [Act.put, List.setIfInBounds_toArray, List.set_cons_zero, List.set_cons_succ]
        refine wpT_takeG (i := 8) (v := ?vd8) rfl (by kernel_rfl) (fun _ _ _ h => h) rfl ?yd8 ?rd8
        case yd8 => ((intro wz; go_simp); try with_reducible rfl)
        try simp only [Act.put, List.setIfInBounds_toArray, List.set_cons_zero, List.set_cons_succ]
        refine wpT_loadG (i := 9) (v := ?vd9) rfl (by kernel_rfl) (fun _ _ _ h => h) rfl ?yd9 HS3 ?rd9
        case yd9 => ((intro wz hSw; (try dsimp only at hSw); go_split_ands; go_simp); try with_reducible rfl)
        try simp only [Act.put, List.setIfInBounds_toArray, List.set_cons_zero, List.set_cons_succ]
        refine wpT_loadG (i := 10) (v := ?vd10) rfl (by kernel_rfl) (fun _ _ _ h => h) rfl ?yd10 HS3 ?rd10
        case yd10 => ((intro wz hSw; (try dsimp only at hSw); go_split_ands; go_simp); try with_reducible rfl)
        try simp only [Act.put, List.setIfInBounds_toArray, List.set_cons_zero, List.set_cons_succ]
        refine wpT_takeG (i := 11) (v := ?vd11) rfl (by kernel_rfl) (fun _ _ _ h => h) rfl ?yd11 ?rd11
        case yd11 => ((intro wz; go_simp); try with_reducible rfl)
        try simp only [Act.put, List.setIfInBounds_toArray, List.set_cons_zero, List.set_cons_succ]
        refine wpT_takeG (i := 12) (v := ?vd12) rfl (by kernel_rfl) (fun _ _ _ h => h) rfl ?yd12 ?rd12
        case yd12 => ((intro wz; go_simp); try with_reducible rfl)
        try simp only [Act.put, List.setIfInBounds_toArray, List.set_cons_zero, List.set_cons_succ]
        refine wpT_takeG (i := 16) (v := ?vd16) rfl (by kernel_rfl) (fun _ _ _ h => h) rfl ?yd16 ?rd16
        case yd16 => ((intro wz; go_simp); try with_reducible rfl)
        try simp only [Act.put, List.setIfInBounds_toArray, List.set_cons_zero, List.set_cons_succ]
        refine wpT_loadG (i := 17) (v := ?vd17) rfl (by kernel_rfl) (fun _ _ _ h => h) rfl ?yd17 HS3 ?rd17
        case yd17 => ((intro wz hSw; (try dsimp only at hSw); go_split_ands; go_simp); try with_reducible rfl)
        try simp only [Act.put, List.setIfInBounds_toArray, List.set_cons_zero, List.set_cons_succ]
        refine wpT_runG (i := 13) (by kernel_rfl) rfl rfl ?_
        go_simp
        have B8 := below1 w7 (.cells #[.slice t1 E.length t2, .slice s1 E.length s2] 22)
        have G8 := heap_alloc_new w7 (.cells #[.slice t1 E.length t2, .slice s1 E.length s2] 22)
        have H8 := Lib.hid (H7.out.trans (B8.mono H7.out.size))
        generalize hw8 : w7.alloc (.cells #[.slice t1 E.length t2, .slice s1 E.length s2] 22) = w8 at *
        refine ⟨cond_keep (by decide) (HSW.out _ H8.out), ?_⟩
        refine wpT_runG (i := 14) (by kernel_rfl) rfl rfl ?_
        go_simp
        have s8a := SA.out.later H8.out
        have s8b := SB.out.later H8.out
        refine (concatCall_c (cell_of_heap (o := 0) G8 rfl) (cell_of_heap (o := 1) G8 rfl) (n1 := E.length) (n2 := E.length) (by have := s8a.sl; rw [List.length_map] at this; exact this) (by have := s8b.sl; rw [List.length_map, List.length_reverse] at this; exact this) (by rw [flat_length _ 8 Cl.cells_length]; simp) (by rw [flat_length _ 8 Cl.cells_length]; simp) (cells_one _) (cells_one _) s8a.fair s8b.fair (by omega)).mono ?_
        rintro r w9 ⟨v9, rfl, o9, hb9⟩
        have H9 := Lib.hid (H8.out.trans (hb9.mono H8.out.size))
        have S9 : Scr w9 v9 ((E.map fun i => cMv 7 i 0) ++ (E.reverse.map fun i => cMv 7 i 0)) := Scr.of_own (B := w8.heap.size) (by rw [List.flatMap_append, List.length_append, List.length_map, List.length_map, List.length_reverse]; exact o9) (fun c hc => by
          rcases List.mem_append.1 hc with q | q
          · exact s8a.ok c q
          · exact s8b.ok c q)
        refine ⟨cond_keep (by decide) (HSW.out _ H9.out), ?_⟩
        refine wpT_runG (i := 15) (by kernel_rfl) rfl rfl ?_
        go_simp
        refine (with_c (l := l) (SN.out.later H9.out) S9 ⟨_, _, _, rfl⟩ (by simp; omega)).mono ?_
        rintro r wa ⟨v10, rfl, s10, hb10⟩
        have H10 := Lib.hid (H9.out.trans (hb10.mono H9.out.size))
        refine ⟨cond_keep (by decide) (HSW.out _ H10.out), ?_⟩
        refine wpT_runG (i := 18) (by kernel_rfl) rfl rfl ?_
        go_simp
        refine (alike_c (SN.out.later H10.out) s10 (SN.out.later H10.out) HL4.out SC.out.ok (fun k hk => by rw [runFrom_append]; exact run_isL_mono _ (mem_lists k hk)) (fun k hk => mem_lists k hk) (fun k _ => HL5.out k) (by decide) (by omega) (by simp; omega) (by omega)).mono ?_
        rintro r wf ⟨rfl, hbf⟩
        have H11 := Lib.hid (H10.out.trans (hbf.mono H10.out.size))
        refine ⟨cond_keep (by decide) (HSW.out _ H11.out), ?_⟩
        have BF := Lib.hid (Br.out.trans (H11.out.mono Br.out.size))
        clear HS3 B8 G8 hw8 s8a s8b o9 hb9 S9 s10 hb10 hbf
        refine wpT_takeG (i := 19) (v := ?ve19) rfl (by kernel_rfl) (fun _ _ _ h => h) rfl ?ye19 ?re19
        case ye19 => ((intro wz; go_simp); try with_reducible rfl)
        try simp only [Act.put, List.setIfInBounds_toArray, List.set_cons_zero, List.set_cons_succ]
        refine wpT_takeG (i := 20) (v := ?ve20) rfl (by kernel_rfl) (fun _ _ _ h => h) rfl ?ye20 ?re20
        case ye20 => ((intro wz; go_simp); try with_reducible rfl)
        try simp only [Act.put, List.setIfInBounds_toArray, List.set_cons_zero, List.set_cons_succ]
        refine wpT_done (by kernel_rfl) ?_ _
        go_wp2
        go_ret
        exact ⟨rfl, BF.out⟩
      · have hjE : j < E.length := by omega
        have hjr : E.length - 1 - j < E.length := by omega
        obtain ⟨x, hx⟩ : ∃ x, E[j]? = some x := ⟨_, List.getElem?_eq_getElem hjE⟩
        obtain ⟨y, hy⟩ : ∃ y, E[E.length - 1 - j]? = some y := ⟨_, List.getElem?_eq_getElem hjr⟩
        obtain ⟨eb, eo, ec, hev, hecell⟩ := NX.out.cells (by intro q; rw [q] at hx; simp at hx)
        simp only [Value.slice.injEq] at hev
        obtain ⟨rfl, hzz, rfl⟩ := hev
        clear hzz
        have ebl : eb < wx.heap.size := World.block_lt_of_cell? wx _ (hecell j x hx)
        have ex := (hT.below.cell (p := ⟨eb, eo + j, none⟩) ebl).trans (hecell j x hx)
        have ey := (hT.below.cell (p := ⟨eb, eo + (E.length - 1 - j), none⟩) ebl).trans (hecell _ y hy)
        have YC := Lib.hid (hecell _ y hy)
        have ax : (E.map fun i => cMv 7 i 0)[j]? = some (cMv 7 x 0) := by rw [List.getElem?_map, hx]; rfl
        have ay : (E.reverse.map fun i => cMv 7 i 0)[j]? = some (cMv 7 y 0) := by rw [List.getElem?_map, List.getElem?_reverse hjE, hy]; rfl
        have AX := Lib.hid ax; have AY := Lib.hid ay; have HT := Lib.hid hT; have HJ := Lib.hid hj
        have wq1 : IntKind.i64.wrap ((E.length : Int) - 1) = (E.length : Int) - 1 := by rw [IntKind.wrap_i64]; omega
        have wq2 : IntKind.i64.wrap ((E.length : Int) - 1 - (j : Int)) = (E.length : Int) - 1 - (j : Int) := by rw [IntKind.wrap_i64]; omega
        have wn1 : ((E.length : Int) - 1 - (j : Int)).toNat = E.length - 1 - j := by omega
        have w01 : 0 ≤ (E.length : Int) - 1 - (j : Int) := by omega
        have c2 : (E.length : Int) - 1 - (j : Int) < (E.length : Int) := by omega
        clear hT hx hy ax ay hecell hj BXr
        go_wp2_with (first
          | (at_builtin; refine wpList_app2 rfl (.tmp 30) (.tmp 33) 22 rfl wx.heap.size 29 _ 8 72 Try.underlying22 Try.infoICall rfl (by decide) _ _ _ rfl (HT.out.one.alloc _) _ 1 (cMv 7 x 0).cells rfl (sl_at' _ _ _ _ _ _ (by simp)) rfl (by simp [Cl.cells, Value.oneCell']) (.inr (.inr (by decide))) (by omega) (by decide) (by simp; omega) ?_; intro va' w5 hown hg hnn; have M5 := Lib.hid (HT.out.app1 AX.out hown hg hnn); have c25 := cell_of_heap (o := 2) (heap_later BX.out M5.out.2.2.2) rfl; have ey5 := (M5.out.2.2.2.cell (p := ⟨eb, eo + (E.length - 1 - j), none⟩) ebl).trans YC.out; have z5 := M5.out.2.2.2.size; clear hown hg hnn)
          | (at_builtin; refine wpList_app2 rfl (.tmp 35) (.tmp 47) 22 rfl wx.heap.size 29 _ 8 72 Try.underlying22 Try.infoICall rfl (by decide) _ _ _ rfl (M5.out.2.1.alloc _) _ 1 (cMv 7 y 0).cells rfl (sl_at' _ _ _ _ _ _ (by simp)) rfl (by simp [Cl.cells, Value.oneCell']) (.inr (.inr (by decide))) (by omega) (by decide) (by simp; omega) ?_; intro vb' w6 hown hg hnn; have M6 := Lib.hid (TwoAt.app2 M5.out.1 M5.out.2.1 M5.out.2.2.1 M5.out.2.2.2 AY.out hown hg hnn); clear hown hg hnn))
        go_roundg (gk - 1)
        case measure => omega
        case rel => exact ⟨j + 1, by have := HJ.out; omega, by go_num, M6.out⟩
  · simp only [scene0]
    go_wp2
    go_ret
    refine ⟨rfl, ?_⟩
    exact B1.out.trans ((below1 _ _).mono B1.out.size)
end Bead
end Go.Proofs.Ytdmichkekipdpaa
