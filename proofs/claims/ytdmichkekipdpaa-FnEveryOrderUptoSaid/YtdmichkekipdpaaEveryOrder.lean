/- FnEveryOrder returns true. -/
import Derived.Test.YtdmichkekipdpaaArrange
import Derived.Test.YtdmichkekipdpaaLast4
set_option linter.all false
namespace Go.Proofs.Ytdmichkekipdpaa
open Go.RowKit
namespace Bead
set_option maxRecDepth 100000

theorem own_lit (w : World) (xs : List Value) (e : TypeId) {B g n sz : Nat} (hg : w.heap.size = g) (hB : B ≤ g) (hl : xs.length = n * sz) (hn : n ≤ maxLen) : (w.alloc (.cells xs.toArray e)).ownsRow B e sz (.slice (some ⟨g, 0, none⟩) n n) n xs := by
  subst hg
  refine ⟨hl, .inr ⟨w.heap.size, n, xs.toArray, rfl, hB, heap_alloc_new w _, Nat.le_refl _, hn, by simpa using hl, ?_⟩⟩
  rw [List.take_of_length_le (by simp [hl])]
theorem OAt.app0 {w1 wr w5 : World} {C j x : Nat} {E R W : List Nat} {vr vw v' : Value} {o : Obj} (h : OAt w1 wr C E j vr vw R W)
    (hown : w5.ownsRow C 3 1 v' (j + 1) (ints W ++ [.int .i64 (x : Nat)])) (hg : (wr.alloc o).grownBy w5 vw.ownBlock) : OMid w1 w5 C (j + 1) R (W ++ [x]) vr v' := by
  obtain ⟨a, b, c, d⟩ := h.wrote (grown1 hg) (fun _ z => z) hown
  exact ⟨a, b, c, d⟩
/-- The first calls of FnEveryOrder. -/
def everyK (want : List Nat) (f k : Nat) : List Cl := cMv 9 (want.getD 0 0) f :: (List.range (k - 1)).map (fun j => cMv 10 (want.getD (j + 1) 0) (want.getD j 0))
theorem everyK_len {want : List Nat} {f k : Nat} (h : 1 ≤ k) : (everyK want f k).length = k := by simp [everyK]; omega
theorem everyK_succ {want : List Nat} {f k x y : Nat} (h : 1 ≤ k) (hx : want[k]? = some x) (hy : want[k - 1]? = some y) : everyK want f (k + 1) = everyK want f k ++ [cMv 10 x y] := by
  obtain ⟨q, rfl⟩ : ∃ q, k = q + 1 := ⟨k - 1, by omega⟩
  simp only [Nat.add_sub_cancel] at hy
  simp only [everyK, Nat.add_sub_cancel, List.range_succ, List.map_append, List.map_cons, List.map_nil, List.cons_append, List.getD_eq_getElem?_getD, hx, hy, Option.getD_some]
/-- A round of the second loop. -/
structure KAt (w wr : World) (W : List Nat) (f k : Nat) (v : Value) : Prop where
  own : wr.ownsRow w.heap.size 29 8 v k ((everyK W f k).flatMap Cl.cells)
  below : Below w.heap.size w wr
theorem KAt.next {w wr w2 : World} {W : List Nat} {f k x y : Nat} {v v' : Value} {o : Obj} (h : KAt w wr W f k v) (h1 : 1 ≤ k) (hx : W[k]? = some x) (hy : W[k - 1]? = some y)
    (hown : w2.ownsRow w.heap.size 29 8 v' (k + 1) ((everyK W f k).flatMap Cl.cells ++ (cMv 10 x y).cells)) (hg : (wr.alloc o).grownBy w2 v.ownBlock) : KAt w w2 W f (k + 1) v' := by
  refine ⟨?_, below_grown (h.below.alloc h.below.size o) (h.own.alloc o) (Nat.le_refl _) hg⟩
  rw [everyK_succ h1 hx hy, cells_app]
  simpa using hown
theorem KAt.next_drew {w wr w2 : World} {W : List Nat} {f k x y : Nat} {v v' : Value} {o : Obj} (h : KAt w wr W f k v) (h1 : 1 ≤ k) (hx : W[k]? = some x) (hy : W[k - 1]? = some y)
    (hown : w2.ownsRow w.heap.size 29 8 v' (k + 1) ((everyK W f k).flatMap Cl.cells ++ (cMv 10 x y).cells)) (hg : (wr.drew.alloc o).grownBy w2 v.ownBlock) : KAt w w2 W f (k + 1) v' :=
  KAt.next (wr := wr.drew) ⟨h.own.drew, h.below.drew⟩ h1 hx hy hown hg

set_option maxHeartbeats 8000000 in
theorem every_c {w : World} {v vo : Value} {cs : List Cl} {os : List Int} (s : Scr w v cs) (so : Sl w vo os.length (zints os)) (hn : cs.length ≤ 1048576) (hno : os.length ≤ 1048576) (n : Int) :
    Calls Try.prog 9 #[v, .int .i64 n, vo] w fun r w' => r = .returned (.bool true) ∧ Below w.heap.size w w' := by
  have ST := Lib.hid (set_c s hn n)
  have SO := Lib.hid so
  obtain ⟨z1, z2, rfl⟩ : ∃ a c, vo = .slice a os.length c := by obtain ⟨a, c, q, _⟩ := so; exact ⟨a, c, q⟩
  clear s so
  go_enter Try.func9, Try.ntmps9
  go_wp2_with fail
  refine ST.out.mono ?_
  rintro r w1 ⟨hb1, hcase⟩
  have B1 := Lib.hid hb1
  have SO1 := Lib.hid (SO.out.later hb1)
  clear hb1 ST SO
  rcases hcase with ⟨l, vs, ve, rfl, hsc, hok0, hl0, hs1, hn1⟩ | rfl
  · have SC := Lib.hid hsc; have S1 := Lib.hid hs1
    generalize hns : namedC cs = ns at *
    clear hns hsc hok0 hl0
    obtain ⟨y1, y2, rfl⟩ := hs1.form
    have NL := names_length (m := runFrom Md.init ns) ((runFrom Md.init ns).seq l)
    have hlen := scene_len SC.out
    generalize hEE : (runFrom Md.init ns).names ((runFrom Md.init ns).seq l) = E at *
    have HEE := Lib.hid hEE
    have hE500 : E.length ≤ 500 := by omega
    have CL := Lib.hid (fun o => cloneInt_c (hn1.later (below1 w1 o)) (by omega))
    have NT := Lib.hid (fun o => hn1.later (below1 w1 o))
    obtain ⟨x1, x2, rfl⟩ := hn1.form
    clear hs1 hn1 hEE NL hlen
    by_cases hE0 : E.length = 0
    · clear CL NT
      go_wp2
      go_ret
      exact ⟨rfl, B1.out.trans ((below1 w1 _).mono B1.out.size)⟩
    have qE0 : ((E.length : Int) == 0) = false := by
      have : ¬ ((E.length : Int) = 0) := by omega
      simpa using this
    go_wp2_with fail
    refine (CL.out _).mono ?_
    rintro r w2 ⟨vr, rfl, hr2, hb2⟩
    have BX := Lib.hid (heap_alloc_new w1 (.cells #[.slice y1 ns.length y2, .int .i64 (l : Nat), .slice x1 E.length x2] 34))
    have SX := Lib.hid (S1.out.later (below1 w1 (.cells #[.slice y1 ns.length y2, .int .i64 (l : Nat), .slice x1 E.length x2] 34)))
    have OX := Lib.hid (SO1.out.later (below1 w1 (.cells #[.slice y1 ns.length y2, .int .i64 (l : Nat), .slice x1 E.length x2] 34)))
    have NX := Lib.hid (NT.out (.cells #[.slice y1 ns.length y2, .int .i64 (l : Nat), .slice x1 E.length x2] 34))
    have B1x := Lib.hid (B1.out.trans ((below1 w1 (.cells #[.slice y1 ns.length y2, .int .i64 (l : Nat), .slice x1 E.length x2] 34)).mono B1.out.size))
    have hzx : w1.heap.size + 1 = (w1.alloc (.cells #[.slice y1 ns.length y2, .int .i64 (l : Nat), .slice x1 E.length x2] 34)).heap.size := by simp
    generalize w1.alloc (.cells #[.slice y1 ns.length y2, .int .i64 (l : Nat), .slice x1 E.length x2] 34) = wx at *
    have A0 : Hid (OAt wx w2 w2.heap.size E 0 vr (.slice none 0 0) E []) := ⟨by omega, rfl, List.Perm.refl _, hr2, World.ownsRow_nil _ _ _ _, fun b q => (hr2.lt b q).2, hb2, hb2.size, Nat.le_refl _⟩
    have d2 := cell_of_heap (o := 2) (heap_later BX.out hb2) rfl
    clear CL hr2 NT
    have HB2 := Lib.hid hb2
    clear hb2
    go_wp2_with fail
    go_loopg [9, 10, 42] E.length (fun n vr vw k wr => ∃ j R W, j + n = E.length ∧ k = .int .i64 j ∧ OAt wx wr w2.heap.size E j vr vw R W)
    case atStart => exact ⟨0, E, [], by omega, rfl, A0.out⟩
    case round =>
      clear A0 d2
      obtain ⟨j, R, W, hj, rfl, hO⟩ := hrel
      have BXr := heap_later BX.out hO.below
      have b0 := cell_of_heap (o := 0) BXr rfl
      have b1 := cell_of_heap (o := 1) BXr rfl
      have b2 := cell_of_heap (o := 2) BXr rfl
      have Br := Lib.hid (B1x.out.trans (hO.below.mono B1x.out.size))
      have lw : wx.heap.size ≤ wr.heap.size := hO.below.size
      by_cases hk0 : gk = 0
      · subst hk0
        obtain rfl : j = E.length := by omega
        obtain rfl : R = [] := List.eq_nil_of_length_eq_zero (by have := hO.len; omega)
        have hp := hO.perm
        rw [List.append_nil] at hp
        have LW := hO.wlen
        obtain ⟨wb, wc, rfl⟩ := own_form hO.want (by omega)
        obtain ⟨f0, hf0⟩ : ∃ f, E[0]? = some f := ⟨_, List.getElem?_eq_getElem (by omega)⟩
        obtain ⟨W0, hW0⟩ : ∃ x, W[0]? = some x := ⟨_, List.getElem?_eq_getElem (by omega)⟩
        have LAW := Lib.hid (every_law (want := W) (f := f0) SC.out (by rw [HEE.out]; exact hp) (by rw [HEE.out]; exact hf0))
        obtain ⟨eb, eo, ec, hev, hecell⟩ := NX.out.cells (by intro q; rw [q] at hE0; simp at hE0)
        simp only [Value.slice.injEq] at hev
        obtain ⟨rfl, hzz, rfl⟩ := hev
        clear hzz
        have ebl : eb < wx.heap.size := World.block_lt_of_cell? wx _ (hecell 0 f0 hf0)
        have ee : wr.cell? ⟨eb, eo, none⟩ = some (.int .i64 (f0 : Nat)) := (hO.below.cell (p := ⟨eb, eo, none⟩) ebl).trans (by simpa using hecell 0 f0 hf0)
        have ew := own_num hO.want hW0
        have WOwn := Lib.hid hO.want
        have HBr := Lib.hid hO.below
        have HW := Lib.hid LW
        have hEpos : 0 < E.length := by omega
        have WCELL : Hid (∀ (k x : Nat), W[k]? = some x → wr.cell? ⟨wb, k, none⟩ = some (.int .i64 (x : Nat))) := fun k x hx => own_num hO.want hx
        clear hO hj hp hecell hE0 qE0
        go_wp2_with fail
        refine wp_region_T (fun X => X.cell? ⟨wb, 0, none⟩ = some (.int .i64 (W0 : Nat)) ∧ X.cell? ⟨w1.heap.size, 2, none⟩ = some (.slice (some ⟨eb, eo, none⟩) E.length x2) ∧ X.cell? ⟨eb, eo, none⟩ = some (.int .i64 (f0 : Nat))) [] [8] run_mixed ?_
        simp only [List.size_toArray, List.length_cons, List.length_nil]
        have HS : (fun X : World => X.cell? ⟨wb, 0, none⟩ = some (.int .i64 (W0 : Nat)) ∧ X.cell? ⟨w1.heap.size, 2, none⟩ = some (.slice (some ⟨eb, eo, none⟩) E.length x2) ∧ X.cell? ⟨eb, eo, none⟩ = some (.int .i64 (f0 : Nat))) wr.drew := ⟨ew, b2, ee⟩
        refine wpT_takeG (i := 0) (v := ?va0) rfl (by kernel_rfl) (fun _ _ _ h => h) rfl ?ya0 ?ra0
        case ya0 => ((intro wz; go_simp); try with_reducible rfl)
        try simp only [Act.put, List.setIfInBounds_toArray, List.set_cons_zero, List.set_cons_succ]
        refine wpT_takeG (i := 1) (v := ?va1) rfl (by kernel_rfl) (fun _ _ _ h => h) rfl ?ya1 ?ra1
        case ya1 => ((intro wz; go_simp); try with_reducible rfl)
        try simp only [Act.put, List.setIfInBounds_toArray, List.set_cons_zero, List.set_cons_succ]
        refine wpT_loadG (i := 2) (v := ?va2) rfl (by kernel_rfl) (fun _ _ _ h => h) rfl ?ya2 HS ?ra2
        case ya2 => ((intro wz hSw; (try dsimp only at hSw); go_split_ands; go_simp); try with_reducible rfl)
        try simp only [Act.put, List.setIfInBounds_toArray, List.set_cons_zero, List.set_cons_succ]
        refine wpT_takeG (i := 3) (v := ?va3) rfl (by kernel_rfl) (fun _ _ _ h => h) rfl ?ya3 ?ra3
        case ya3 => ((intro wz; go_simp); try with_reducible rfl)
        try simp only [Act.put, List.setIfInBounds_toArray, List.set_cons_zero, List.set_cons_succ]
        refine wpT_loadG (i := 4) (v := ?va4) rfl (by kernel_rfl) (fun _ _ _ h => h) rfl ?ya4 HS ?ra4
        case ya4 => ((intro wz hSw; (try dsimp only at hSw); go_split_ands; go_simp); try with_reducible rfl)
        try simp only [Act.put, List.setIfInBounds_toArray, List.set_cons_zero, List.set_cons_succ]
        refine wpT_takeG (i := 5) (v := ?va5) rfl (by kernel_rfl) (fun _ _ _ h => h) rfl ?ya5 ?ra5
        case ya5 => ((intro wz; go_simp); try with_reducible rfl)
        try simp only [Act.put, List.setIfInBounds_toArray, List.set_cons_zero, List.set_cons_succ]
        refine wpT_loadG (i := 6) (v := ?va6) rfl (by kernel_rfl) (fun _ _ _ h => h) rfl ?ya6 HS ?ra6
        case ya6 => ((intro wz hSw; (try dsimp only at hSw); go_split_ands; go_simp); try with_reducible rfl)
        try simp only [Act.put, List.setIfInBounds_toArray, List.set_cons_zero, List.set_cons_succ]
        refine wpT_takeG (i := 7) (v := ?va7) rfl (by kernel_rfl) (fun _ _ _ h => h) rfl ?ya7 ?ra7
        case ya7 => ((intro wz; go_simp); try with_reducible rfl)
        try simp only [Act.put, List.setIfInBounds_toArray, List.set_cons_zero, List.set_cons_succ]
        refine wpT_runG (i := 8) (by kernel_rfl) rfl rfl ?_
        go_simp
        refine ⟨trivial, ?_⟩
        have K0 : Hid (KAt wr ((wr.alloc (.cells (cMv 9 W0 f0).cells.toArray 29)).drew) W f0 1 (.slice (some ⟨wr.heap.size, 0, none⟩) 1 1)) := by
          refine ⟨?_, ((Below.refl _ wr).alloc (Nat.le_refl _) _).drew⟩
          have := own_lit wr (cMv 9 W0 f0).cells 29 (B := wr.heap.size) (g := wr.heap.size) (n := 1) (sz := 8) rfl (Nat.le_refl _) rfl (by decide)
          have e : (everyK W f0 1).flatMap Cl.cells = (cMv 9 W0 f0).cells := by simp [everyK, List.getD_eq_getElem?_getD, hW0]
          rw [e]; exact this
        refine wpT_takeG (i := 9) (v := ?vb9) rfl (by kernel_rfl) (fun _ _ _ h => h) rfl ?yb9 ?rb9
        case yb9 => ((intro wz; go_simp); try with_reducible rfl)
        try simp only [Act.put, List.setIfInBounds_toArray, List.set_cons_zero, List.set_cons_succ]
        refine wpT_done (by kernel_rfl) ?_ _
        clear HS ee ew b0 b1 b2 hf0 hW0
        obtain ⟨wo, rfl⟩ : ∃ W', W' = wr := ⟨_, rfl⟩
        go_wp2_with fail
        go_loopg [13, 14] (E.length - 1) (fun n vc k wq => ∃ t, t + n = E.length ∧ 1 ≤ t ∧ k = .int .i64 t ∧ KAt wo wq W f0 t vc)
        case atStart => exact ⟨1, by omega, by omega, rfl, K0.out⟩
        case round =>
          clear K0
          obtain ⟨t, ht, ht1, rfl, hK⟩ := hrel
          have BXq := heap_later BX.out (HBr.out.trans (hK.below.mono HBr.out.size))
          have b0 := cell_of_heap (o := 0) BXq rfl
          have b1 := cell_of_heap (o := 1) BXq rfl
          have b2 := cell_of_heap (o := 2) BXq rfl
          have lq : wo.heap.size ≤ wr.heap.size := hK.below.size
          by_cases hk0 : gk = 0
          · subst hk0
            obtain rfl : t = E.length := by omega
            obtain ⟨t1, t2, rfl⟩ := own_len hK.own
            have hkl : (everyC W f0).length = E.length := by have := everyK_len (want := W) (f := f0) ht1; have e : everyC W f0 = everyK W f0 E.length := by unfold everyC everyK; rw [HW.out]
                                                             rw [e]; exact this
            have hKE : everyC W f0 = everyK W f0 E.length := by unfold everyC everyK; rw [HW.out]
            have SCc : Scr wr (.slice t1 E.length t2) (everyC W f0) := Scr.of_own (B := wo.heap.size) (by rw [hkl, hKE]; exact hK.own) (fun c hc => by
              simp only [everyC, List.mem_cons, List.mem_map] at hc
              rcases hc with rfl | ⟨q, _, rfl⟩ <;> exact vl_zero_ok)
            have LN := SC.out.len
            have BBq := HBr.out.trans (hK.below.mono HBr.out.size)
            have WC := Lib.hid (with_c (l := l) (ve := .slice (some ⟨eb, eo, none⟩) E.length x2) (SX.out.later BBq) SCc ⟨_, _, _, rfl⟩ (by rw [hkl]; omega))
            have WN : Hid (wr.ownsRow w2.heap.size 3 1 (.slice (some ⟨wb, 0, none⟩) E.length wc) W.length (ints W)) := own_below (by rw [HW.out]; exact WOwn.out) hK.below
            have BrO := Br
            have Brq := Lib.hid (BrO.out.trans (hK.below.mono BrO.out.size))
            have HLW := Lib.hid hkl
            clear hK ht SCc hkl hKE BBq
            obtain ⟨Br, hBr⟩ : ∃ B : Hid (Below w.heap.size w wr), B = Brq := ⟨Brq, rfl⟩
            have BXr := BXq
            clear hBr BXq
            go_wp2_with fail
            refine WC.out.mono ?_
            rintro r w4 ⟨v4, rfl, s4, hb4⟩
            have B4 := Lib.hid (Br.out.trans (hb4.mono Br.out.size))
            have BX4 := Lib.hid (heap_later BXr hb4)
            have N4 := Lib.hid (own_below WN.out hb4)
            have FW := Lib.hid (forward_c s4 LAW.out.ok LAW.out.lst (by decide) (by rw [List.length_append, List.length_map, HLW.out]; omega))
            have S4 := Lib.hid s4
            have e1 := cell_of_heap (o := 1) BX4.out rfl
            clear hb4 s4 WC b0 b1 b2 BXr
            go_wp2_with fail
            refine FW.out.mono ?_
            rintro r w5 ⟨v5, g5, rfl, _, o5, hb5⟩
            have B5 := Lib.hid (B4.out.trans (hb5.mono B4.out.size))
            have BX5 := Lib.hid (heap_later BX4.out hb5)
            have N5 := Lib.hid (own_below N4.out hb5)
            have BW := Lib.hid (backward_c (S4.out.later hb5) LAW.out.ok LAW.out.lst (by decide) (by rw [List.length_append, List.length_map, HLW.out]; omega))
            have O5 : Hid (w5.ownsRow w4.heap.size 3 1 g5 W.length (ints W)) := by rw [LAW.out.len, LAW.out.fwd] at o5; exact o5
            have f1 := cell_of_heap (o := 1) BX5.out rfl
            clear hb5 o5 FW e1
            go_wp2_with fail
            refine BW.out.mono ?_
            rintro r w6 ⟨v6, g6, rfl, _, o6, hb6⟩
            have B6 := Lib.hid (B5.out.trans (hb6.mono B5.out.size))
            have N6 := Lib.hid (own_below N5.out hb6)
            have O56 := Lib.hid (own_below O5.out hb6)
            have o6' : w6.ownsRow w5.heap.size 3 1 g6 W.length (ints W.reverse) := by rw [LAW.out.len, LAW.out.bwd] at o6; exact o6
            have RV := Lib.hid (reverseInt_c o6' (by simp) (by have := HW.out; omega))
            have O6 := Lib.hid o6'
            have Z5 := Lib.hid (fun b q => (O5.out.lt b q).2)
            have ZN := Lib.hid (fun b q => (N5.out.lt b q).2)
            clear hb6 o6 o6' BW f1
            go_wp2_with fail
            refine RV.out.mono ?_
            rintro r w7 ⟨rfl, o7, hk7⟩
            rw [List.reverse_reverse] at o7
            have B7 : Hid (Below w.heap.size w w7) := B6.out.trans (hk7.below (fun b hb _ z => by have := (O6.out.lt b z).1; have := B5.out.size; omega) B6.out.size)
            have o57 := own_keeps O56.out hk7 (fun b q z => by have := (O6.out.lt b z).1; have := Z5.out b q; omega)
            have n7 := own_keeps N6.out hk7 (fun b q z => by have := (O6.out.lt b z).1; have := ZN.out b q; omega)
            have HW5 : W.length ≤ 500 := by have := HW.out; omega
            have E1 := Lib.hid (equalInt_c (Nats.of_own o57) (Nats.of_own n7) (by omega))
            have E2 : Hid (∀ d, Calls Try.prog 28 #[g6, (.slice (some ⟨wb, 0, none⟩) E.length wc)] (w7.drewN d) fun r w' => r = .returned (.bool true) ∧ ∃ d', w' = (w7.drewN d).drewN d') := fun d => equalInt_c (Nats.drewN (Nats.of_own o7) d) (Nats.drewN (Nats.of_own n7) d) (by omega)
            clear hk7 o7 o57 n7 RV
            go_wp2_with fail
            refine E1.out.mono ?_
            rintro r w8 ⟨rfl, d, rfl⟩
            clear E1
            go_wp2_with fail
            refine (E2.out d).mono ?_
            rintro r w9 ⟨rfl, d', rfl⟩
            have BF : Hid (Below w.heap.size w (w7.drewN (d + d'))) := Below.drewN' B7.out _
            clear E2
            go_wp2
            go_ret
            exact ⟨rfl, BF.out⟩
          · have htl : t < E.length := by omega
            obtain ⟨x, hx⟩ : ∃ x, W[t]? = some x := ⟨_, List.getElem?_eq_getElem (by have := HW.out; omega)⟩
            obtain ⟨y, hy⟩ : ∃ y, W[t - 1]? = some y := ⟨_, List.getElem?_eq_getElem (by have := HW.out; omega)⟩
            have wbl : wb < wo.heap.size := World.block_lt_of_cell? wo _ (WCELL.out t x hx)
            have ex := (hK.below.cell (p := ⟨wb, t, none⟩) wbl).trans (WCELL.out t x hx)
            have ey := (hK.below.cell (p := ⟨wb, t - 1, none⟩) wbl).trans (WCELL.out (t - 1) y hy)
            have wq1 : IntKind.i64.wrap ((t : Int) - 1) = (t : Int) - 1 := by rw [IntKind.wrap_i64]; omega
            have wn1 : ((t : Int) - 1).toNat = t - 1 := by omega
            have w01 : 0 ≤ (t : Int) - 1 := by omega
            have tN1 : t - 1 < E.length := by omega
            have c1 : 1 ≤ (t : Int) := by omega
            have c2 : (t : Int) - 1 < (E.length : Int) := by omega
            have HK := Lib.hid hK; have HX := Lib.hid hx; have HY := Lib.hid hy; have HT := Lib.hid ht
            clear hK hx hy ht b0 b1 b2 BXq
            go_wp2_with fail
            refine wp_region_T (fun X => X.cell? ⟨wb, t, none⟩ = some (.int .i64 (x : Nat)) ∧ X.cell? ⟨wb, t - 1, none⟩ = some (.int .i64 (y : Nat))) [] [11, 12] run_mixed ?_
            simp only [List.size_toArray, List.length_cons, List.length_nil]
            have HS : (fun X : World => X.cell? ⟨wb, t, none⟩ = some (.int .i64 (x : Nat)) ∧ X.cell? ⟨wb, t - 1, none⟩ = some (.int .i64 (y : Nat))) wr.drew := ⟨ex, ey⟩
            refine wpT_takeG (i := 0) (v := ?vc0) rfl (by kernel_rfl) (fun _ _ _ h => h) rfl ?yc0 ?rc0
            case yc0 => ((intro wz; go_simp); try with_reducible rfl)
            try simp only [Act.put, List.setIfInBounds_toArray, List.set_cons_zero, List.set_cons_succ]
            refine wpT_takeG (i := 1) (v := ?vc1) rfl (by kernel_rfl) (fun _ _ _ h => h) rfl ?yc1 ?rc1
            case yc1 => ((intro wz; go_simp); try with_reducible rfl)
            try simp only [Act.put, List.setIfInBounds_toArray, List.set_cons_zero, List.set_cons_succ]
            refine wpT_takeG (i := 2) (v := ?vc2) rfl (by kernel_rfl) (fun _ _ _ h => h) rfl ?yc2 ?rc2
            case yc2 => ((intro wz; go_simp); try with_reducible rfl)
            try simp only [Act.put, List.setIfInBounds_toArray, List.set_cons_zero, List.set_cons_succ]
            refine wpT_takeG (i := 3) (v := ?vc3) rfl (by kernel_rfl) (fun _ _ _ h => h) rfl ?yc3 ?rc3
            case yc3 => ((intro wz; go_simp); try with_reducible rfl)
            try simp only [Act.put, List.setIfInBounds_toArray, List.set_cons_zero, List.set_cons_succ]
            refine wpT_loadG (i := 4) (v := ?vc4) rfl (by kernel_rfl) (fun _ _ _ h => h) rfl ?yc4 HS ?rc4
            case yc4 => ((intro wz hSw; (try dsimp only at hSw); go_split_ands; go_simp); try with_reducible rfl)
            try simp only [Act.put, List.setIfInBounds_toArray, List.set_cons_zero, List.set_cons_succ]
            refine wpT_takeG (i := 5) (v := ?vc5) rfl (by kernel_rfl) (fun _ _ _ h => h) rfl ?yc5 ?rc5
            case yc5 => ((intro wz; go_simp); try with_reducible rfl)
            try simp only [Act.put, List.setIfInBounds_toArray, List.set_cons_zero, List.set_cons_succ]
            refine wpT_takeG (i := 6) (v := ?vc6) rfl (by kernel_rfl) (fun _ _ _ h => h) rfl ?yc6 ?rc6
            case yc6 => ((intro wz; go_simp); try with_reducible rfl)
            try simp only [Act.put, List.setIfInBounds_toArray, List.set_cons_zero, List.set_cons_succ]
            refine wpT_takeG (i := 7) (v := ?vc7) rfl (by kernel_rfl) (fun _ _ _ h => h) rfl ?yc7 ?rc7
            case yc7 => ((intro wz; go_simp); try with_reducible rfl)
            try simp only [Act.put, List.setIfInBounds_toArray, List.set_cons_zero, List.set_cons_succ]
            refine wpT_takeG (i := 8) (v := ?vc8) rfl (by kernel_rfl) (fun _ _ _ h => h) rfl ?yc8 ?rc8
            case yc8 => ((intro wz; go_simp); try with_reducible rfl)
            try simp only [Act.put, List.setIfInBounds_toArray, List.set_cons_zero, List.set_cons_succ]
            refine wpT_loadG (i := 9) (v := ?vc9) rfl (by kernel_rfl) (fun _ _ _ h => h) rfl ?yc9 HS ?rc9
            case yc9 => ((intro wz hSw; (try dsimp only at hSw); go_split_ands; go_simp); try with_reducible rfl)
            try simp only [Act.put, List.setIfInBounds_toArray, List.set_cons_zero, List.set_cons_succ]
            refine wpT_takeG (i := 10) (v := ?vc10) rfl (by kernel_rfl) (fun _ _ _ h => h) rfl ?yc10 ?rc10
            case yc10 => ((intro wz; go_simp); try with_reducible rfl)
            try simp only [Act.put, List.setIfInBounds_toArray, List.set_cons_zero, List.set_cons_succ]
            refine wpT_runG (i := 11) (by kernel_rfl) rfl rfl ?_
            go_simp
            refine ⟨trivial, ?_⟩
            refine wpT_runG (i := 12) (by kernel_rfl) rfl rfl ?_
            refine wp_app2 (.tmp 87) (.tmp 98) 22 rfl wo.heap.size 29 _ 8 72 Try.underlying22 Try.infoICall rfl (by decide) u13 t _ rfl (HK.out.own.drew.alloc _) _ 1 (cMv 10 x y).cells rfl (sl_new _ _ _ _ _) rfl (by simp [Cl.cells, Value.oneCell']) (.inr (.inr (by decide))) (by omega) (by decide) (by simp; omega) ?_
            intro vc' w3 hown hg _
            have N2 : Hid (KAt wo w3 W f0 (t + 1) vc') := HK.out.next_drew ht1 HX.out HY.out hown hg
            clear hown hg
            refine ⟨trivial, ?_⟩
            simp only [Act.put, List.setIfInBounds_toArray, List.set_cons_zero, List.set_cons_succ]
            refine wpT_takeG (i := 13) (v := ?vd13) rfl (by kernel_rfl) (fun _ _ _ h => h) rfl ?yd13 ?rd13
            case yd13 => ((intro wz; go_simp); try with_reducible rfl)
            try simp only [Act.put, List.setIfInBounds_toArray, List.set_cons_zero, List.set_cons_succ]
            refine wpT_done (by kernel_rfl) ?_ _
            go_wp2
            go_roundg (gk - 1)
            case measure => omega
            case rel => exact ⟨t + 1, by have := HT.out; omega, by omega, by go_num, N2.out⟩
      · by_cases hjo : j < os.length
        · obtain ⟨z, hz⟩ : ∃ z, os[j]? = some z := ⟨_, List.getElem?_eq_getElem hjo⟩
          obtain ⟨zb, zo, zc, hzv, hzc⟩ : ∃ b off cap, (Value.slice z1 os.length z2) = .slice (some ⟨b, off, none⟩) os.length cap ∧ ∀ k x, (zints os)[k]? = some x → wx.cell? ⟨b, off + k, none⟩ = some x := by
            obtain ⟨a, cap, q, hc⟩ := OX.out
            obtain ⟨b, off, rfl, hd⟩ := hc (by intro q; have := zints_get hz; rw [q] at this; simp at this)
            exact ⟨b, off, cap, q, hd⟩
          simp only [Value.slice.injEq] at hzv
          obtain ⟨rfl, hzz, rfl⟩ := hzv
          clear hzz
          have zbl : zb < wx.heap.size := World.block_lt_of_cell? wx _ (hzc j _ (zints_get hz))
          have ez := (hO.below.cell (p := ⟨zb, zo + j, none⟩) zbl).trans (hzc j _ (zints_get hz))
          have qjo : decide ((j : Int) < (os.length : Int)) = true := by simp; omega
          clear hzc hz
          have LR := hO.len
          have hRl : 0 < R.length := by omega
          obtain ⟨rb, rc, rfl⟩ := own_form hO.rest hRl
          obtain ⟨at', hat, hm⟩ := umod z hRl (by omega)
          obtain ⟨x, hx⟩ : ∃ x, R[at']? = some x := ⟨_, List.getElem?_eq_getElem hat⟩
          have ex := own_num hO.rest hx
          have HO := Lib.hid hO; have HX := Lib.hid hx; have HJ := Lib.hid hj
          have hjE : j < E.length := by omega
          have hCr : w2.heap.size ≤ wr.heap.size := hO.hiC
          have RO := Lib.hid (fun b q => (hO.rest.lt b q).1)
          clear hO hx hj b0 b1 b2 BXr
          go_wp2_with (first
            | (at_builtin; refine wpList_app2 rfl (.tmp 59) (.tmp 64) 32 rfl w2.heap.size 3 _ 1 8 Try.underlying32 Try.infoInt rfl (by decide) _ _ _ rfl (HO.out.want.alloc _) _ 1 [.int .i64 (x : Nat)] rfl (sl_at' _ _ _ _ _ _ (by simp)) rfl (by simp [Value.oneCell']) (.inr (.inr (by decide))) (by omega) (by decide) (by simp; omega) ?_; intro vw' w5 hown hg hnn; have M5 := Lib.hid (HO.out.app0 hown hg); have ex5 := own_num M5.out.rest HX.out; have hC5 := M5.out.hiC; clear hown hg hnn))
          refine (deleteInt_c (i := at') M5.out.rest rfl hat).mono ?_
          rintro r w7 ⟨vr', rfl, o7, hv7, hk7⟩
          have N7 := Lib.hid (HO.out.next HX.out rfl M5.out.want M5.out.below M5.out.hiC o7 hv7 hk7 RO.out)
          clear o7 hv7 hk7
          go_wp2
          go_roundg (gk - 1)
          case measure => omega
          case rel => exact ⟨j + 1, _, _, by have := HJ.out; omega, by go_num, N7.out⟩
        · have qjo : decide ((j : Int) < (os.length : Int)) = false := by simp; omega
          have LR := hO.len
          have hRl : 0 < R.length := by omega
          obtain ⟨rb, rc, rfl⟩ := own_form hO.rest hRl
          have hat : 0 < R.length := hRl
          obtain ⟨x, hx⟩ : ∃ x, R[0]? = some x := ⟨_, List.getElem?_eq_getElem hat⟩
          have ex := own_num hO.rest hx
          have HO := Lib.hid hO; have HX := Lib.hid hx; have HJ := Lib.hid hj
          have hjE : j < E.length := by omega
          have hCr : w2.heap.size ≤ wr.heap.size := hO.hiC
          have RO := Lib.hid (fun b q => (hO.rest.lt b q).1)
          clear hO hx hj b0 b1 b2 BXr
          go_wp2_with (first
            | (at_builtin; refine wpList_app2 rfl (.tmp 59) (.tmp 64) 32 rfl w2.heap.size 3 _ 1 8 Try.underlying32 Try.infoInt rfl (by decide) _ _ _ rfl (HO.out.want.alloc _) _ 1 [.int .i64 (x : Nat)] rfl (sl_at' _ _ _ _ _ _ (by simp)) rfl (by simp [Value.oneCell']) (.inr (.inr (by decide))) (by omega) (by decide) (by simp; omega) ?_; intro vw' w5 hown hg hnn; have M5 := Lib.hid (HO.out.app0 hown hg); have ex5 := own_num M5.out.rest HX.out; have hC5 := M5.out.hiC; clear hown hg hnn))
          refine (deleteInt_c (i := 0) M5.out.rest rfl hat).mono ?_
          rintro r w7 ⟨vr', rfl, o7, hv7, hk7⟩
          have N7 := Lib.hid (HO.out.next HX.out rfl M5.out.want M5.out.below M5.out.hiC o7 hv7 hk7 RO.out)
          clear o7 hv7 hk7
          go_wp2
          go_roundg (gk - 1)
          case measure => omega
          case rel => exact ⟨j + 1, _, _, by have := HJ.out; omega, by go_num, N7.out⟩
  · simp only [scene0]
    go_wp2
    go_ret
    refine ⟨rfl, ?_⟩
    exact B1.out.trans ((below1 _ _).mono B1.out.size)
end Bead
end Go.Proofs.Ytdmichkekipdpaa
