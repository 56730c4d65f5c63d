/- FnEmptied returns true. -/
import Derived.Test.YtdmichkekipdpaaScene2
import Derived.Test.YtdmichkekipdpaaMoves
import Derived.Test.YtdmichkekipdpaaShelfQ
import Derived.Test.YtdmichkekipdpaaLast4
set_option linter.all false
namespace Go.Proofs.Ytdmichkekipdpaa
open Go.RowKit
namespace Bead
set_option maxRecDepth 100000

/-- What all rounds know. -/
structure EmAt (w wr : World) (g1 g2 g3 : Nat) (ns : List Cl) (l : Nat) (vs ve : Value) (x : SV) (VL : List Vl) : Prop where
  box : wr.heap[g1]? = some (.cells #[vs, .int .i64 (l : Nat), ve] 34 (0, 0))
  sgt : wr.heap[g2]? = some (.cells #[x.e, x.b, x.v, .int .i64 (x.n : Nat)] 57 (0, 0))
  ops : wr.heap[g3]? = some (.cells #[.int .i64 15, .int .i64 16] 3 (0, 0))
  scr : Scr wr vs ns
  vals : Vls wr x.v VL
  below : Below w.heap.size w wr
theorem EmAt.later {w wr w2 : World} {g1 g2 g3 l : Nat} {ns : List Cl} {vs ve : Value} {x : SV} {VL : List Vl} (h : EmAt w wr g1 g2 g3 ns l vs ve x VL) (hb : Below wr.heap.size wr w2) : EmAt w w2 g1 g2 g3 ns l vs ve x VL :=
  ⟨heap_later h.box hb, heap_later h.sgt hb, heap_later h.ops hb, h.scr.later hb, Sl.later h.vals hb, h.below.trans (hb.mono h.below.size)⟩
/-- The first inner loop: the calls. -/
structure ECAt (wo wr : World) (rev : Bool) (n k : Nat) (v : Value) : Prop where
  own : wr.ownsRow wo.heap.size 29 8 v (2 * k) ((emptyC rev n k).flatMap Cl.cells)
  below : Below wo.heap.size wo wr
theorem ECAt.next {wo wr w2 : World} {rev : Bool} {n k : Nat} {v v' : Value} {o : Obj} {X : List Value} (h : ECAt wo wr rev n k v) (hX : X = (cEnd rev 0).cells ++ (cMv 11 (n + 2 * k) 0).cells)
    (hown : w2.ownsRow wo.heap.size 29 8 v' (2 * k + 2) ((emptyC rev n k).flatMap Cl.cells ++ X)) (hg : (wr.alloc o).grownBy w2 v.ownBlock) : ECAt wo w2 rev n (k + 1) v' := by
  refine ⟨?_, below_grown (h.below.alloc h.below.size o) (h.own.alloc o) (Nat.le_refl _) hg⟩
  rw [emptyC_succ, cells_app]
  subst hX
  simpa [Nat.mul_add] using hown
theorem ec_cells (rev : Bool) (n k : Nat) : [.int .i64 (if rev then 16 else 15), .int .i64 0, .int .i64 0, .int .i64 0, .int .i64 0, .int .i64 0, .int .i64 0, .string ⟨#[]⟩, .int .i64 11, .int .i64 0, .int .i64 0, .int .i64 ((n : Int) + 2 * (k : Int)), .int .i64 0, .int .i64 0, .int .i64 0, .string ⟨#[]⟩] = (cEnd rev 0).cells ++ (cMv 11 (n + 2 * k) 0).cells := by
  have : ((n + 2 * k : Nat) : Int) = (n : Int) + 2 * (k : Int) := by omega
  simp only [Cl.cells, cEnd, cMv, this]
  rfl
/-- The second inner loop: the values. -/
structure EVAt (wo wr : World) (L : List Vl) (k : Nat) (v : Value) : Prop where
  own : wr.ownsRow wo.heap.size 27 3 v (k / 2) ((L.take (k / 2)).flatMap Vl.cells)
  below : Below wo.heap.size wo wr
theorem EVAt.skip {wo wr : World} {L : List Vl} {k : Nat} {v : Value} (h : EVAt wo wr L k v) (hk : k % 2 = 0) (o : Obj) : EVAt wo (wr.alloc o) L (k + 1) v := by
  have e : (k + 1) / 2 = k / 2 := by omega
  exact ⟨by rw [e]; exact h.own.alloc o, h.below.alloc h.below.size o⟩
theorem EVAt.next {wo wr w2 : World} {L : List Vl} {k : Nat} {v v' : Value} {x : Vl} {o o' : Obj} (h : EVAt wo wr L k v) (hk : k % 2 = 1) (hx : L[k / 2]? = some x)
    (hown : w2.ownsRow wo.heap.size 27 3 v' (k / 2 + 1) ((L.take (k / 2)).flatMap Vl.cells ++ x.cells)) (hg : ((wr.alloc o).alloc o').grownBy w2 v.ownBlock) : EVAt wo w2 L (k + 1) v' := by
  have e : (k + 1) / 2 = k / 2 + 1 := by omega
  obtain ⟨hl, ex⟩ := List.getElem?_eq_some_iff.1 hx
  refine ⟨?_, below_grown (below_alloc2 h.below o o') ((h.own.alloc o).alloc o') (Nat.le_refl _) hg⟩
  rw [e, List.take_succ_eq_append_getElem hl, ex]
  simpa using hown

set_option maxHeartbeats 16000000 in
theorem emptied_c {w : World} {v : Value} {cs : List Cl} (s : Scr w v cs) (hn : cs.length ≤ 1048576) (n : Int) :
    Calls Try.prog 8 #[v, .int .i64 n] w fun r w' => r = .returned (.bool true) ∧ Below w.heap.size w w' := by
  have ST := Lib.hid (set_c s hn n)
  clear s
  go_enter Try.func8, Try.ntmps8
  go_wp2_with fail
  refine ST.out.mono ?_
  rintro r w1 ⟨hb1, hcase⟩
  have B1 := Lib.hid hb1
  clear hb1 ST
  rcases hcase with ⟨l, vs, ve, rfl, hsc, hok0, hl0, hs1, hn1⟩ | rfl
  · have SC := Lib.hid hsc
    generalize hns : namedC cs = ns at *
    clear hns hsc hok0 hl0
    obtain ⟨y1, y2, rfl⟩ := hs1.form
    obtain ⟨x1, x2, rfl⟩ := hn1.form
    have NL := names_length (m := runFrom Md.init ns) ((runFrom Md.init ns).seq l)
    have hlen := scene_len SC.out
    have LN := SC.out.len
    have hns0 : 0 < ns.length := by have := SC.out.wf.isl l SC.out.lst; rw [run_init_len] at this; omega
    have SE := Lib.hid (fun o => see_s (hs1.later (below1 w1 o)) SC.out.ok SC.out.lst (by decide) (by omega))
    have LAWF := Lib.hid (empty_law SC.out false _ _ rfl rfl)
    have LAWT := Lib.hid (empty_law SC.out true _ _ rfl rfl)
    generalize hN : ((runFrom Md.init ns).seq l).length = N at *
    rw [NL]
    have HN := Lib.hid hN
    have S1 := Lib.hid hs1
    clear hs1 hn1 NL hN
    go_wp2_with fail
    refine (SE.out _).mono ?_
    rintro r w2 ⟨x, rfl, hse, _, hb2⟩
    obtain ⟨xe, xb, xv, xn⟩ := x
    obtain ⟨ea, ec, rfl⟩ : ∃ a c, xe = .slice a N c := by obtain ⟨a, c, q⟩ := hse.reads.elems.form; rw [names_length, HN.out] at q; exact ⟨a, c, q⟩
    obtain ⟨ba, bc, rfl⟩ : ∃ a c, xb = .slice a N c := by obtain ⟨a, c, q⟩ := hse.reads.back.form; rw [List.length_reverse, names_length, HN.out] at q; exact ⟨a, c, q⟩
    obtain ⟨da, dc, rfl⟩ : ∃ a c, xv = .slice a N c := by obtain ⟨a, c, q, _⟩ := hse.reads.vals; rw [List.length_map, HN.out] at q; exact ⟨a, c, q⟩
    have G2 := heap_later (heap_alloc_new w1 (.cells #[.slice y1 ns.length y2, .int .i64 (l : Nat), .slice x1 N x2] 34)) hb2
    have B2 := B1.out.trans (((below1 w1 _).trans (hb2.mono (by simp))).mono B1.out.size)
    have S2 := (S1.out.later (below1 w1 _)).later hb2
    have hz2 : w1.heap.size < w2.heap.size := (Array.getElem?_eq_some_iff.1 G2).1
    have A0 : Hid (EmAt w ((w2.alloc (.cells #[.slice ea N ec, .slice ba N bc, .slice da N dc, .int .i64 (xn : Nat)] 57)).alloc (.cells #[.int .i64 15, .int .i64 16] 3)) w1.heap.size w2.heap.size (w2.heap.size + 1) ns l (.slice y1 ns.length y2) (.slice x1 N x2) ⟨.slice ea N ec, .slice ba N bc, .slice da N dc, xn⟩ (((runFrom Md.init ns).seq l).map (runFrom Md.init ns).val)) :=
      ⟨heap_more (heap_more G2 _) _, heap_more (heap_alloc_new w2 _) _, by have := heap_alloc_new (w2.alloc (.cells #[.slice ea N ec, .slice ba N bc, .slice da N dc, .int .i64 (xn : Nat)] 57)) (.cells #[.int .i64 15, .int .i64 16] 3); simpa using this, S2.later (below2 w2 _ _), Sl.later hse.reads.vals (below2 w2 _ _), B2.trans ((below2 w2 _ _).mono B2.size)⟩
    clear SE hb2 hse G2 S2
    simp only [SV.agg]
    go_wp2_with fail
    go_loopg [37] 2 (fun n k wr => ∃ j, j + n = 2 ∧ k = .int .i64 j ∧ EmAt w wr w1.heap.size w2.heap.size (w2.heap.size + 1) ns l (.slice y1 ns.length y2) (.slice x1 N x2) ⟨.slice ea N ec, .slice ba N bc, .slice da N dc, xn⟩ (((runFrom Md.init ns).seq l).map (runFrom Md.init ns).val))
    case atStart => exact ⟨0, rfl, rfl, A0.out⟩
    case round =>
      clear A0
      obtain ⟨j, hj, rfl, hA⟩ := hrel
      have Br := Lib.hid hA.below
      have l1 : w1.heap.size < wr.heap.size := (Array.getElem?_eq_some_iff.1 hA.box).1
      rcases (show j = 2 ∨ j = 0 ∨ j = 1 by omega) with rfl | rfl | rfl
      · obtain rfl : gk = 0 := by omega
        clear hA hj
        go_wp2
        go_ret
        exact ⟨rfl, Br.out⟩
      · obtain rfl : gk = 2 := by omega
        have p0 := cell_of_heap (o := 0) hA.ops rfl
        have b0 := cell_of_heap (o := 0) hA.box rfl
        have b1 := cell_of_heap (o := 1) hA.box rfl
        have b2 := cell_of_heap (o := 2) hA.box rfl
        have HA := Lib.hid hA
        clear hA hj
        obtain ⟨wo, rfl⟩ : ∃ W', W' = wr := ⟨_, rfl⟩
        go_wp2_with fail
        go_loopg [11, 44] N (fun n vc k wr => ∃ t, t + n = N ∧ k = .int .i64 t ∧ ECAt wo wr false ns.length t vc)
        case atStart => exact ⟨0, by omega, rfl, World.ownsRow_nil _ _ _ _, Below.refl _ _⟩
        case round =>
          clear p0 b0 b1 b2
          obtain ⟨t, ht, rfl, hE⟩ := hrel
          have AR := HA.out.later hE.below
          have b0 := cell_of_heap (o := 0) AR.box rfl
          have b1 := cell_of_heap (o := 1) AR.box rfl
          have b2 := cell_of_heap (o := 2) AR.box rfl
          have lo : wo.heap.size ≤ wr.heap.size := hE.below.size
          by_cases hk0 : gk = 0
          · subst hk0
            obtain rfl : N = t := by omega
            have hcl := Lib.hid (emptyC_length false ns.length N)
            obtain ⟨t1, t2, rfl⟩ := own_len hE.own
            have SCc : Scr wr (.slice t1 (2 * N) t2) (emptyC false ns.length N) := Scr.of_own (B := wo.heap.size) (by rw [hcl.out]; exact hE.own) (fun c hc => by
              simp only [emptyC, List.mem_flatMap, List.mem_cons, List.not_mem_nil, or_false] at hc
              obtain ⟨k, _, rfl | rfl⟩ := hc <;> exact vl_zero_ok)
            have WTH := Lib.hid (with_f (l := l) (ve := .slice x1 N x2) AR.scr SCc ⟨_, _, _, rfl⟩ (by rw [hcl.out]; omega))
            have HAR := Lib.hid AR
            clear hE ht AR SCc
            go_wp2_with fail
            refine WTH.out.mono ?_
            rintro r w4 ⟨v4, rfl, o4, k4, hb4⟩
            rw [hcl.out] at o4
            have A4 := Lib.hid (HAR.out.later hb4)
            obtain ⟨vb, vp, rfl⟩ := own_form o4 (by omega)
            have hcap := (own_room o4).1
            have S4 : Hid (Scr w4 (.slice (some ⟨vb, 0, none⟩) (ns.length + 2 * N) vp) (ns ++ (emptyC false ns.length N).map (onL l))) := Scr.of_own (B := wr.heap.size) (by rw [List.length_append, List.length_map, hcl.out]; exact o4) k4
            have O4 := Lib.hid o4; have K4 := Lib.hid k4
            clear WTH hb4 o4 k4 b0 b1 b2
            go_wp2_with fail
            obtain ⟨ad, HAD⟩ : ∃ ad : Option Addr, ((vp = ns.length → ad = some ⟨vb, 0, none⟩) ∧ (¬ vp = ns.length → ad = some ⟨vb, ns.length * 8, none⟩)) := by
              by_cases q : vp = ns.length
              · exact ⟨_, fun _ => rfl, fun z => absurd q z⟩
              · exact ⟨_, fun z => absurd z q, fun _ => rfl⟩
            have hle3 : (ns.length : Int) ≤ (ns.length : Int) + 2 * (N : Int) := by omega
            refine wp_region_T (fun X : World => X.cell? ⟨w1.heap.size, 0, none⟩ = some (.slice y1 ns.length y2)) [7] [] run_mixed ?_
            simp only [List.size_toArray, List.length_cons, List.length_nil]
            have HS : (fun X : World => X.cell? ⟨w1.heap.size, 0, none⟩ = some (.slice y1 ns.length y2)) w4.drew := cell_of_heap (o := 0) A4.out.box rfl
            have HADh := Lib.hid HAD
            clear HAD
            refine wpT_takeG (i := 0) (v := ?vfa0) rfl (by kernel_rfl) (fun _ _ _ h => h) rfl ?yfa0 ?rfa0
            case yfa0 => ((intro wz; go_simp); try with_reducible rfl)
            try simp only [Act.put, List.setIfInBounds_toArray, List.set_cons_zero, List.set_cons_succ]
            refine wpT_loadG (i := 1) (v := ?vfa1) rfl (by kernel_rfl) (fun _ _ _ h => h) rfl ?yfa1 HS ?rfa1
            case yfa1 => ((intro wz hSw; (try dsimp only at hSw); go_split_ands; go_simp); try with_reducible rfl)
            try simp only [Act.put, List.setIfInBounds_toArray, List.set_cons_zero, List.set_cons_succ]
            refine wpT_takeG (i := 2) (v := ?vfa2) rfl (by kernel_rfl) (fun _ _ _ h => h) rfl ?yfa2 ?rfa2
            case yfa2 => ((intro wz; go_simp); try with_reducible rfl)
            try simp only [Act.put, List.setIfInBounds_toArray, List.set_cons_zero, List.set_cons_succ]
            refine wpT_takeG (i := 3) (v := ?vfa3) rfl (by kernel_rfl) (fun _ _ _ h => h) rfl ?yfa3 ?rfa3
            case yfa3 => ((intro wz; go_simp); try with_reducible rfl)
            try simp only [Act.put, List.setIfInBounds_toArray, List.set_cons_zero, List.set_cons_succ]
            refine wpT_loadG (i := 4) (v := ?vfa4) rfl (by kernel_rfl) (fun _ _ _ h => h) rfl ?yfa4 HS ?rfa4
            case yfa4 => ((intro wz hSw; (try dsimp only at hSw); go_split_ands; go_simp); try with_reducible rfl)
            try simp only [Act.put, List.setIfInBounds_toArray, List.set_cons_zero, List.set_cons_succ]
            refine wpT_takeG (i := 5) (v := ?vfa5) rfl (by kernel_rfl) (fun _ _ _ h => h) rfl ?yfa5 ?rfa5
            case yfa5 => ((intro wz; go_simp); try with_reducible rfl)
            try simp only [Act.put, List.setIfInBounds_toArray, List.set_cons_zero, List.set_cons_succ]
            refine wpT_takeG (i := 9) (v := ?vfa9) rfl (by kernel_rfl) (fun _ _ _ h => h) rfl ?yfa9 ?rfa9
            case yfa9 => ((intro wz; go_simp); try with_reducible rfl)
            try simp only [Act.put, List.setIfInBounds_toArray, List.set_cons_zero, List.set_cons_succ]
            refine wpT_takeG (i := 6) (v := .slice ad (2 * N) (vp - ns.length)) rfl (by kernel_rfl) (fun _ _ _ h => h) rfl ?yfs6 ?rfs6
            case yfs6 =>
              intro wz
              by_cases q : vp = ns.length
              · rw [HADh.out.1 q]; go_simp
              · rw [HADh.out.2 q]; go_simp
            try simp only [Act.put, List.setIfInBounds_toArray, List.set_cons_zero, List.set_cons_succ]
            refine wpT_runG (i := 7) (by kernel_rfl) rfl rfl ?_
            go_simp
            have SR : Scr w4.drew (.slice ad (2 * N) (vp - ns.length)) ((emptyC false ns.length N).map (onL l)) := by
              by_cases q : vp = ns.length
              · have N0 : N = 0 := by omega
                refine ⟨?_, fun k c' z => by rw [HADh.out.1 q] at z; simp at z, fun x hx => K4.out x (List.mem_append_right _ hx)⟩
                rw [List.length_map, hcl.out]
                exact ⟨ad, _, rfl, fun hne => absurd (by rw [N0]; rfl) hne⟩
              · rw [HADh.out.2 q]
                exact scr_rest O4.out.drew rfl (by rw [List.length_map, hcl.out]) (fun x hx => K4.out x (List.mem_append_right _ hx)) _
            refine (behind_c (A4.out.scr.later (Below.refl _ w4).drew) SR LAWF.out.1 (by decide) (by rw [List.length_map, hcl.out]; omega)).mono ?_
            rintro r w6 ⟨v6, rfl, s6, _, hb6⟩
            have A6 := Lib.hid ((A4.out.later (Below.refl _ w4).drew).later hb6)
            have S46 := Lib.hid ((S4.out.later (Below.refl _ w4).drew).later hb6)
            refine ⟨cond_keep (by decide) (cell_of_heap (o := 0) A6.out.box rfl), ?_⟩
            have s6' : Sl w6 v6 (ansFrom (runFrom Md.init ns) ((emptyC false ns.length N).map (onL l))).length ((ansFrom (runFrom Md.init ns) ((emptyC false ns.length N).map (onL l))).flatMap An.cells) := by rw [ansFrom_length]; exact s6
            have hal : (ansFrom (runFrom Md.init ns) ((emptyC false ns.length N).map (onL l))).length = 2 * N := by rw [ansFrom_length, List.length_map, hcl.out]
            have HAL := Lib.hid hal
            have LAWF4 := Lib.hid LAWF.out.2.2.2
            generalize hANS : ansFrom (runFrom Md.init ns) ((emptyC false ns.length N).map (onL l)) = ANS at *
            obtain ⟨va, vc6, rfl⟩ : ∃ a c, v6 = .slice a (2 * N) c := by obtain ⟨a, c, q, _⟩ := s6'; rw [hal] at q; exact ⟨a, c, q⟩
            have S6 := Lib.hid s6'
            have hdl : (dir false ((runFrom Md.init ns).seq l)).length = N := by rw [dir_length]; exact HN.out
            have HDL := Lib.hid hdl
            clear s6 s6' hb6 SR HS hANS hal hdl HADh hle3 O4 K4 S4 A4 HAR hcap
            refine wpT_takeG (i := 8) (v := ?vfb8) rfl (by kernel_rfl) (fun _ _ _ h => h) rfl ?yfb8 ?rfb8
            case yfb8 => ((intro wz; go_simp); try with_reducible rfl)
            try simp only [Act.put, List.setIfInBounds_toArray, List.set_cons_zero, List.set_cons_succ]
            refine wpT_done (by kernel_rfl) ?_ _
            go_wp2_with fail
            go_loopg [14, 72] (2 * N) (fun n vv k wr => ∃ t, t + n = 2 * N ∧ k = .int .i64 t ∧ EVAt w6 wr ((dir false ((runFrom Md.init ns).seq l)).map (runFrom Md.init ns).val) t vv)
            case atStart => exact ⟨0, by omega, rfl, World.ownsRow_nil _ _ _ _, Below.refl _ _⟩
            case round =>
              obtain ⟨t, ht, rfl, hV⟩ := hrel
              have lv : w6.heap.size ≤ wr.heap.size := hV.below.size
              by_cases hk0 : gk = 0
              · subst hk0
                obtain rfl : t = 2 * N := by omega
                have hV2 : wr.ownsRow w6.heap.size 27 3 u14 N (((dir false ((runFrom Md.init ns).seq l)).map (runFrom Md.init ns).val).flatMap Vl.cells) := by
                  have := hV.own
                  rw [show 2 * N / 2 = N by omega, List.take_of_length_le (by rw [List.length_map, HDL.out]; exact Nat.le_refl _)] at this
                  exact this
                have B6r := hV.below
                clear hV ht
                have V7 : Hid (Vls wr u14 (((runFrom Md.init ns).seq l).map (runFrom Md.init ns).val)) := by
                  show Sl _ _ _ _
                  rw [List.length_map, HN.out]
                  exact Sl.of_own hV2
                obtain ⟨t3, t4, rfl⟩ := own_len hV2
                obtain ⟨w7, rfl⟩ : ∃ W', W' = wr := ⟨_, rfl⟩
                have A7 := Lib.hid (A6.out.later B6r)
                have L7 := Lib.hid (S46.out.later B6r)
                clear hV2 B6r
                go_wp2_with fail
                refine wp_region_T (fun X : World => X.cell? ⟨w1.heap.size, 0, none⟩ = some (.slice y1 ns.length y2) ∧ X.cell? ⟨w1.heap.size, 1, none⟩ = some (.int .i64 (l : Nat)) ∧ X.cell? ⟨w1.heap.size, 2, none⟩ = some (.slice x1 N x2) ∧ X.cell? ⟨w2.heap.size, 2, none⟩ = some (.slice da N dc)) [3, 11, 12, 13] [] run_mixed ?_
                simp only [List.size_toArray, List.length_cons, List.length_nil]
                have HSW : Hid (∀ W, Below w7.heap.size w7 W → (fun X : World => X.cell? ⟨w1.heap.size, 0, none⟩ = some (.slice y1 ns.length y2) ∧ X.cell? ⟨w1.heap.size, 1, none⟩ = some (.int .i64 (l : Nat)) ∧ X.cell? ⟨w1.heap.size, 2, none⟩ = some (.slice x1 N x2) ∧ X.cell? ⟨w2.heap.size, 2, none⟩ = some (.slice da N dc)) W) := fun W hb => ⟨cell_of_heap (o := 0) (heap_later A7.out.box hb) rfl, cell_of_heap (o := 1) (heap_later A7.out.box hb) rfl, cell_of_heap (o := 2) (heap_later A7.out.box hb) rfl, cell_of_heap (o := 2) (heap_later A7.out.sgt hb) rfl⟩
                have hbd : Below w7.heap.size w7 w7.drew := (Below.refl _ w7).drew
                have HS2 := HSW.out _ hbd
                refine wpT_takeG (i := 0) (v := ?vfc0) rfl (by kernel_rfl) (fun _ _ _ h => h) rfl ?yfc0 ?rfc0
                case yfc0 => ((intro wz; go_simp); try with_reducible rfl)
                try simp only [Act.put, List.setIfInBounds_toArray, List.set_cons_zero, List.set_cons_succ]
                refine wpT_takeG (i := 1) (v := ?vfc1) rfl (by kernel_rfl) (fun _ _ _ h => h) rfl ?yfc1 ?rfc1
                case yfc1 => ((intro wz; go_simp); try with_reducible rfl)
                try simp only [Act.put, List.setIfInBounds_toArray, List.set_cons_zero, List.set_cons_succ]
                refine wpT_loadG (i := 2) (v := ?vfc2) rfl (by kernel_rfl) (fun _ _ _ h => h) rfl ?yfc2 HS2 ?rfc2
                case yfc2 => ((intro wz hSw; (try dsimp only at hSw); go_split_ands; go_simp); try with_reducible rfl)
                try simp only [Act.put, List.setIfInBounds_toArray, List.set_cons_zero, List.set_cons_succ]
                refine wpT_runG (i := 3) (by kernel_rfl) rfl rfl ?_
                go_simp
                refine (equalVal_c (Sl.later V7.out hbd) (Sl.later A7.out.vals hbd) (by rw [List.length_map, HN.out]; omega)).mono ?_
                rintro r w8 ⟨rfl, d, rfl⟩
                have H8 : Hid (Below w7.heap.size w7 (w7.drew.drewN d)) := Below.drewN' hbd d
                generalize w7.drew.drewN d = w8 at *
                refine ⟨cond_keep (by decide) (HSW.out _ H8.out), ?_⟩
                have HS3 := HSW.out _ H8.out
                clear HS2 hbd
                refine wpT_takeG (i := 4) (v := ?vfd4) rfl (by kernel_rfl) (fun _ _ _ h => h) rfl ?yfd4 ?rfd4
                case yfd4 => ((intro wz; go_simp); try with_reducible rfl)
                try simp only [Act.put, List.setIfInBounds_toArray, List.set_cons_zero, List.set_cons_succ]
                refine wpT_takeG (i := 5) (v := ?vfd5) rfl (by kernel_rfl) (fun _ _ _ h => h) rfl ?yfd5 ?rfd5
                case yfd5 => ((intro wz; go_simp); try with_reducible rfl)
                try simp only [Act.put, List.setIfInBounds_toArray, List.set_cons_zero, List.set_cons_succ]
                refine wpT_takeG (i := 6) (v := ?vfd6) rfl (by kernel_rfl) (fun _ _ _ h => h) rfl ?yfd6 ?rfd6
                case yfd6 => ((intro wz; go_simp); try with_reducible rfl)
                try simp only [Act.put, List.setIfInBounds_toArray, List.set_cons_zero, List.set_cons_succ]
                refine wpT_loadG (i := 7) (v := ?vfd7) rfl (by kernel_rfl) (fun _ _ _ h => h) rfl ?yfd7 HS3 ?rfd7
                case yfd7 => ((intro wz hSw; (try dsimp only at hSw); go_split_ands; go_simp); try with_reducible rfl)
                try simp only [Act.put, List.setIfInBounds_toArray, List.set_cons_zero, List.set_cons_succ]
                refine wpT_takeG (i := 8) (v := ?vfd8) rfl (by kernel_rfl) (fun _ _ _ h => h) rfl ?yfd8 ?rfd8
                case yfd8 => ((intro wz; go_simp); try with_reducible rfl)
                try simp only [Act.put, List.setIfInBounds_toArray, List.set_cons_zero, List.set_cons_succ]
                refine wpT_loadG (i := 9) (v := ?vfd9) rfl (by kernel_rfl) (fun _ _ _ h => h) rfl ?yfd9 HS3 ?rfd9
                case yfd9 => ((intro wz hSw; (try dsimp only at hSw); go_split_ands; go_simp); try with_reducible rfl)
                try simp only [Act.put, List.setIfInBounds_toArray, List.set_cons_zero, List.set_cons_succ]
                refine wpT_takeG (i := 10) (v := ?vfd10) rfl (by kernel_rfl) (fun _ _ _ h => h) rfl ?yfd10 ?rfd10
                case yfd10 => ((intro wz; go_simp); try with_reducible rfl)
                try simp only [Act.put, List.setIfInBounds_toArray, List.set_cons_zero, List.set_cons_succ]
                refine wpT_runG (i := 11) (by kernel_rfl) rfl rfl ?_
                go_simp
                have B9 := below1 w8 (.cells #[.int .i64 14, .int .i64 0, .int .i64 0, .int .i64 0, .int .i64 0, .int .i64 0, .int .i64 0, .string ⟨#[]⟩] 29)
                have SI : Scr (w8.alloc (.cells #[.int .i64 14, .int .i64 0, .int .i64 0, .int .i64 0, .int .i64 0, .int .i64 0, .int .i64 0, .string ⟨#[]⟩] 29)) (.slice (some ⟨w8.heap.size, 0, none⟩) 1 1) [cMv 14 0 0] := scr_lit w8 [cMv 14 0 0] 29 w8.heap.size 1 rfl rfl (by simp [cMv]; exact vl_zero_ok)
                have H9 := Lib.hid (H8.out.trans (B9.mono H8.out.size))
                generalize hw9 : w8.alloc (.cells #[.int .i64 14, .int .i64 0, .int .i64 0, .int .i64 0, .int .i64 0, .int .i64 0, .int .i64 0, .string ⟨#[]⟩] 29) = w9 at *
                refine ⟨cond_keep (by decide) (HSW.out _ H9.out), ?_⟩
                refine wpT_runG (i := 12) (by kernel_rfl) rfl rfl ?_
                go_simp
                refine (with_c (l := l) (A7.out.scr.later H9.out) SI ⟨_, _, _, rfl⟩ (by simp; omega)).mono ?_
                rintro r wa ⟨v10, rfl, s10, hb10⟩
                have H10 := Lib.hid (H9.out.trans (hb10.mono H9.out.size))
                refine ⟨cond_keep (by decide) (HSW.out _ H10.out), ?_⟩
                refine wpT_runG (i := 13) (by kernel_rfl) rfl rfl ?_
                go_simp
                refine (alike_c (A7.out.scr.later H10.out) (L7.out.later H10.out) s10 LAWF.out.1 LAWF.out.2.1 (fun k hk => by rw [runFrom_append]; exact run_isL_mono _ (mem_lists k hk)) (fun k hk => by rw [runFrom_append]; exact run_isL_mono _ (mem_lists k hk)) (fun k _ => LAWF.out.2.2.1 k) (by decide) (by omega) (by rw [List.length_append, List.length_map, hcl.out]; omega) (by simp; omega)).mono ?_
                rintro r wf ⟨rfl, hbf⟩
                have H11 := Lib.hid (H10.out.trans (hbf.mono H10.out.size))
                refine ⟨cond_keep (by decide) (HSW.out _ H11.out), ?_⟩
                have AF := Lib.hid (A7.out.later H11.out)
                clear HS3 B9 SI hw9 s10 hb10 hbf
                refine wpT_takeG (i := 14) (v := ?vfe14) rfl (by kernel_rfl) (fun _ _ _ h => h) rfl ?yfe14 ?rfe14
                case yfe14 => ((intro wz; go_simp); try with_reducible rfl)
                try simp only [Act.put, List.setIfInBounds_toArray, List.set_cons_zero, List.set_cons_succ]
                refine wpT_takeG (i := 15) (v := ?vfe15) rfl (by kernel_rfl) (fun _ _ _ h => h) rfl ?yfe15 ?rfe15
                case yfe15 => ((intro wz; go_simp); try with_reducible rfl)
                try simp only [Act.put, List.setIfInBounds_toArray, List.set_cons_zero, List.set_cons_succ]
                refine wpT_done (by kernel_rfl) ?_ _
                go_wp2
                go_roundg 1
                case measure => omega
                case rel => exact ⟨1, rfl, by go_num, AF.out⟩
              · have htl : t < 2 * N := by omega
                obtain ⟨a, ha⟩ : ∃ a, ANS[t]? = some a := ⟨_, List.getElem?_eq_getElem (by have := HAL.out; omega)⟩
                obtain ⟨tb, tq, tc, hv, hcell⟩ := S6.out.elem An.cells_length (by decide) (by intro q; rw [q] at ha; simp at ha)
                rw [HAL.out] at hv
                simp only [Value.slice.injEq] at hv
                obtain ⟨rfl, _, rfl⟩ := hv
                have tbl : tb < w6.heap.size := World.block_lt_of_cell? w6 _ (hcell t a ha 0 _ rfl)
                have cc : ∀ i y, a.cells[i]? = some y → wr.cell? ⟨tb, tq + t * 5 + i, none⟩ = some y := fun i y hy => by rw [hV.below.cell (p := ⟨tb, tq + t * 5 + i, none⟩) tbl, Nat.add_assoc]; exact hcell t a ha i y hy
                have e0 := cc 0 _ rfl; have e1 := cc 1 _ rfl; have e2 := cc 2 _ rfl; have e3 := cc 3 _ rfl; have e4 := cc 4 _ rfl
                simp only [Nat.add_zero] at e0
                have HV := Lib.hid hV; have HT := Lib.hid ht
                by_cases hodd : t % 2 = 1
                · obtain ⟨ei, hei⟩ : ∃ e, (dir false ((runFrom Md.init ns).seq l))[t / 2]? = some e := ⟨_, List.getElem?_eq_getElem (by have := HDL.out; omega)⟩
                  have hax := LAWF4.out (t / 2) ei hei
                  rw [show 2 * (t / 2) + 1 = t by omega, ha] at hax
                  have hae : a = ⟨-1, 0, (runFrom Md.init ns).val ei⟩ := Option.some.inj hax
                  have hx : ((dir false ((runFrom Md.init ns).seq l)).map (runFrom Md.init ns).val)[t / 2]? = some ((runFrom Md.init ns).val ei) := by rw [List.getElem?_map, hei]; rfl
                  generalize hvx : (runFrom Md.init ns).val ei = vx at *
                  subst hae
                  have HX := Lib.hid hx; have HO := Lib.hid hodd
                  have qm : ((t : Int) % 2 == 1) = true := by
                    have : (t : Int) % 2 = 1 := by omega
                    simp [this]
                  have hq2 : t / 2 ≤ 500 := by omega
                  clear hV ht ha hcell cc hax hei hvx hx hodd
                  go_wp2_with (at_builtin; refine wpList_app2 rfl (.tmp 80) (.tmp 83) 55 rfl w6.heap.size 27 _ 3 32 Try.underlying55 Try.infoIValue rfl (by decide) _ _ _ rfl ((HV.out.own.alloc _).alloc _) _ 1 vx.cells rfl (sl_at' _ _ _ _ _ _ (by simp)) rfl (by simp [Vl.cells, Value.oneCell']) (.inr (.inr (by decide))) (by omega) (by decide) (by simp; omega) ?_; intro vv' w5 hown hg hnn; have N5 := Lib.hid (HV.out.next HO.out HX.out hown hg); clear hown hg hnn)
                  go_roundg (gk - 1)
                  case measure => omega
                  case rel => exact ⟨t + 1, by have := HT.out; omega, by go_num, N5.out⟩
                · have N5 := Lib.hid (fun o => hV.skip (by omega) o)
                  have qm : ((t : Int) % 2 == 1) = false := by
                    have : (t : Int) % 2 = 0 := by omega
                    simp [this]
                  clear hV ht ha hcell cc hodd
                  go_wp2
                  go_roundg (gk - 1)
                  case measure => omega
                  case rel => exact ⟨t + 1, by have := HT.out; omega, by go_num, N5.out _⟩
          · have htN : t < N := by omega
            have HE := Lib.hid hE; have HT := Lib.hid ht
            clear hE ht AR
            go_wp2_with (at_builtin; refine wpList_app2 rfl (.tmp 47) (.tmp 57) 22 rfl wo.heap.size 29 _ 8 72 Try.underlying22 Try.infoICall rfl (by decide) _ _ _ rfl (HE.out.own.alloc _) _ 2 [.int .i64 (if false then 16 else 15), .int .i64 0, .int .i64 0, .int .i64 0, .int .i64 0, .int .i64 0, .int .i64 0, .string ⟨#[]⟩, .int .i64 11, .int .i64 0, .int .i64 0, .int .i64 ((ns.length : Int) + 2 * (t : Int)), .int .i64 0, .int .i64 0, .int .i64 0, .string ⟨#[]⟩] rfl (sl_at' _ _ _ _ _ _ (by simp)) rfl (by simp [Value.oneCell']) (.inr (.inr (by decide))) (by omega) (by decide) (by simp; omega) ?_; intro vc' w5 hown hg hnn; have N5 := Lib.hid (HE.out.next (ec_cells false ns.length t) hown hg); clear hown hg hnn)
            go_roundg (gk - 1)
            case measure => omega
            case rel => exact ⟨t + 1, by have := HT.out; omega, by go_num, N5.out⟩
      · obtain rfl : gk = 1 := by omega
        have p0 := cell_of_heap (o := 1) hA.ops rfl
        have b0 := cell_of_heap (o := 0) hA.box rfl
        have b1 := cell_of_heap (o := 1) hA.box rfl
        have b2 := cell_of_heap (o := 2) hA.box rfl
        have HA := Lib.hid hA
        clear hA hj
        obtain ⟨wo, rfl⟩ : ∃ W', W' = wr := ⟨_, rfl⟩
        go_wp2_with fail
        go_loopg [11, 44] N (fun n vc k wr => ∃ t, t + n = N ∧ k = .int .i64 t ∧ ECAt wo wr true ns.length t vc)
        case atStart => exact ⟨0, by omega, rfl, World.ownsRow_nil _ _ _ _, Below.refl _ _⟩
        case round =>
          clear p0 b0 b1 b2
          obtain ⟨t, ht, rfl, hE⟩ := hrel
          have AR := HA.out.later hE.below
          have b0 := cell_of_heap (o := 0) AR.box rfl
          have b1 := cell_of_heap (o := 1) AR.box rfl
          have b2 := cell_of_heap (o := 2) AR.box rfl
          have lo : wo.heap.size ≤ wr.heap.size := hE.below.size
          by_cases hk0 : gk = 0
          · subst hk0
            obtain rfl : N = t := by omega
            have hcl := Lib.hid (emptyC_length true ns.length N)
            obtain ⟨t1, t2, rfl⟩ := own_len hE.own
            have SCc : Scr wr (.slice t1 (2 * N) t2) (emptyC true ns.length N) := Scr.of_own (B := wo.heap.size) (by rw [hcl.out]; exact hE.own) (fun c hc => by
              simp only [emptyC, List.mem_flatMap, List.mem_cons, List.not_mem_nil, or_false] at hc
              obtain ⟨k, _, rfl | rfl⟩ := hc <;> exact vl_zero_ok)
            have WTH := Lib.hid (with_f (l := l) (ve := .slice x1 N x2) AR.scr SCc ⟨_, _, _, rfl⟩ (by rw [hcl.out]; omega))
            have HAR := Lib.hid AR
            clear hE ht AR SCc
            go_wp2_with fail
            refine WTH.out.mono ?_
            rintro r w4 ⟨v4, rfl, o4, k4, hb4⟩
            rw [hcl.out] at o4
            have A4 := Lib.hid (HAR.out.later hb4)
            obtain ⟨vb, vp, rfl⟩ := own_form o4 (by omega)
            have hcap := (own_room o4).1
            have S4 : Hid (Scr w4 (.slice (some ⟨vb, 0, none⟩) (ns.length + 2 * N) vp) (ns ++ (emptyC true ns.length N).map (onL l))) := Scr.of_own (B := wr.heap.size) (by rw [List.length_append, List.length_map, hcl.out]; exact o4) k4
            have O4 := Lib.hid o4; have K4 := Lib.hid k4
            clear WTH hb4 o4 k4 b0 b1 b2
            go_wp2_with fail
            obtain ⟨ad, HAD⟩ : ∃ ad : Option Addr, ((vp = ns.length → ad = some ⟨vb, 0, none⟩) ∧ (¬ vp = ns.length → ad = some ⟨vb, ns.length * 8, none⟩)) := by
              by_cases q : vp = ns.length
              · exact ⟨_, fun _ => rfl, fun z => absurd q z⟩
              · exact ⟨_, fun z => absurd z q, fun _ => rfl⟩
            have hle3 : (ns.length : Int) ≤ (ns.length : Int) + 2 * (N : Int) := by omega
            refine wp_region_T (fun X : World => X.cell? ⟨w1.heap.size, 0, none⟩ = some (.slice y1 ns.length y2)) [7] [] run_mixed ?_
            simp only [List.size_toArray, List.length_cons, List.length_nil]
            have HS : (fun X : World => X.cell? ⟨w1.heap.size, 0, none⟩ = some (.slice y1 ns.length y2)) w4.drew := cell_of_heap (o := 0) A4.out.box rfl
            have HADh := Lib.hid HAD
            clear HAD
            refine wpT_takeG (i := 0) (v := ?vta0) rfl (by kernel_rfl) (fun _ _ _ h => h) rfl ?yta0 ?rta0
            case yta0 => ((intro wz; go_simp); try with_reducible rfl)
            try simp only [Act.put, List.setIfInBounds_toArray, List.set_cons_zero, List.set_cons_succ]
            refine wpT_loadG (i := 1) (v := ?vta1) rfl (by kernel_rfl) (fun _ _ _ h => h) rfl ?yta1 HS ?rta1
            case yta1 => ((intro wz hSw; (try dsimp only at hSw); go_split_ands; go_simp); try with_reducible rfl)
            try simp only [Act.put, List.setIfInBounds_toArray, List.set_cons_zero, List.set_cons_succ]
            refine wpT_takeG (i := 2) (v := ?vta2) rfl (by kernel_rfl) (fun _ _ _ h => h) rfl ?yta2 ?rta2
            case yta2 => ((intro wz; go_simp); try with_reducible rfl)
            try simp only [Act.put, List.setIfInBounds_toArray, List.set_cons_zero, List.set_cons_succ]
            refine wpT_takeG (i := 3) (v := ?vta3) rfl (by kernel_rfl) (fun _ _ _ h => h) rfl ?yta3 ?rta3
            case yta3 => ((intro wz; go_simp); try with_reducible rfl)
            try simp only [Act.put, List.setIfInBounds_toArray, List.set_cons_zero, List.set_cons_succ]
            refine wpT_loadG (i := 4) (v := ?vta4) rfl (by kernel_rfl) (fun _ _ _ h => h) rfl ?yta4 HS ?rta4
            case yta4 => ((intro wz hSw; (try dsimp only at hSw); go_split_ands; go_simp); try with_reducible rfl)
            try simp only [Act.put, List.setIfInBounds_toArray, List.set_cons_zero, List.set_cons_succ]
            refine wpT_takeG (i := 5) (v := ?vta5) rfl (by kernel_rfl) (fun _ _ _ h => h) rfl ?yta5 ?rta5
            case yta5 => ((intro wz; go_simp); try with_reducible rfl)
            try simp only [Act.put, List.setIfInBounds_toArray, List.set_cons_zero, List.set_cons_succ]
            refine wpT_takeG (i := 9) (v := ?vta9) rfl (by kernel_rfl) (fun _ _ _ h => h) rfl ?yta9 ?rta9
            case yta9 => ((intro wz; go_simp); try with_reducible rfl)
            try simp only [Act.put, List.setIfInBounds_toArray, List.set_cons_zero, List.set_cons_succ]
            refine wpT_takeG (i := 6) (v := .slice ad (2 * N) (vp - ns.length)) rfl (by kernel_rfl) (fun _ _ _ h => h) rfl ?yts6 ?rts6
            case yts6 =>
              intro wz
              by_cases q : vp = ns.length
              · rw [HADh.out.1 q]; go_simp
              · rw [HADh.out.2 q]; go_simp
            try simp only [Act.put, List.setIfInBounds_toArray, List.set_cons_zero, List.set_cons_succ]
            refine wpT_runG (i := 7) (by kernel_rfl) rfl rfl ?_
            go_simp
            have SR : Scr w4.drew (.slice ad (2 * N) (vp - ns.length)) ((emptyC true ns.length N).map (onL l)) := by
              by_cases q : vp = ns.length
              · have N0 : N = 0 := by omega
                refine ⟨?_, fun k c' z => by rw [HADh.out.1 q] at z; simp at z, fun x hx => K4.out x (List.mem_append_right _ hx)⟩
                rw [List.length_map, hcl.out]
                exact ⟨ad, _, rfl, fun hne => absurd (by rw [N0]; rfl) hne⟩
              · rw [HADh.out.2 q]
                exact scr_rest O4.out.drew rfl (by rw [List.length_map, hcl.out]) (fun x hx => K4.out x (List.mem_append_right _ hx)) _
            refine (behind_c (A4.out.scr.later (Below.refl _ w4).drew) SR LAWT.out.1 (by decide) (by rw [List.length_map, hcl.out]; omega)).mono ?_
            rintro r w6 ⟨v6, rfl, s6, _, hb6⟩
            have A6 := Lib.hid ((A4.out.later (Below.refl _ w4).drew).later hb6)
            have S46 := Lib.hid ((S4.out.later (Below.refl _ w4).drew).later hb6)
            refine ⟨cond_keep (by decide) (cell_of_heap (o := 0) A6.out.box rfl), ?_⟩
            have s6' : Sl w6 v6 (ansFrom (runFrom Md.init ns) ((emptyC true ns.length N).map (onL l))).length ((ansFrom (runFrom Md.init ns) ((emptyC true ns.length N).map (onL l))).flatMap An.cells) := by rw [ansFrom_length]; exact s6
            have hal : (ansFrom (runFrom Md.init ns) ((emptyC true ns.length N).map (onL l))).length = 2 * N := by rw [ansFrom_length, List.length_map, hcl.out]
            have HAL := Lib.hid hal
            have LAWT4 := Lib.hid LAWT.out.2.2.2
            generalize hANS : ansFrom (runFrom Md.init ns) ((emptyC true ns.length N).map (onL l)) = ANS at *
            obtain ⟨va, vc6, rfl⟩ : ∃ a c, v6 = .slice a (2 * N) c := by obtain ⟨a, c, q, _⟩ := s6'; rw [hal] at q; exact ⟨a, c, q⟩
            have S6 := Lib.hid s6'
            have hdl : (dir true ((runFrom Md.init ns).seq l)).length = N := by rw [dir_length]; exact HN.out
            have HDL := Lib.hid hdl
            clear s6 s6' hb6 SR HS hANS hal hdl HADh hle3 O4 K4 S4 A4 HAR hcap
            refine wpT_takeG (i := 8) (v := ?vtb8) rfl (by kernel_rfl) (fun _ _ _ h => h) rfl ?ytb8 ?rtb8
            case ytb8 => ((intro wz; go_simp); try with_reducible rfl)
            try simp only [Act.put, List.setIfInBounds_toArray, List.set_cons_zero, List.set_cons_succ]
            refine wpT_done (by kernel_rfl) ?_ _
            go_wp2_with fail
            go_loopg [14, 72] (2 * N) (fun n vv k wr => ∃ t, t + n = 2 * N ∧ k = .int .i64 t ∧ EVAt w6 wr ((dir true ((runFrom Md.init ns).seq l)).map (runFrom Md.init ns).val) t vv)
            case atStart => exact ⟨0, by omega, rfl, World.ownsRow_nil _ _ _ _, Below.refl _ _⟩
            case round =>
              obtain ⟨t, ht, rfl, hV⟩ := hrel
              have lv : w6.heap.size ≤ wr.heap.size := hV.below.size
              by_cases hk0 : gk = 0
              · subst hk0
                obtain rfl : t = 2 * N := by omega
                have hV2 : wr.ownsRow w6.heap.size 27 3 u14 N (((dir true ((runFrom Md.init ns).seq l)).map (runFrom Md.init ns).val).flatMap Vl.cells) := by
                  have := hV.own
                  rw [show 2 * N / 2 = N by omega, List.take_of_length_le (by rw [List.length_map, HDL.out]; exact Nat.le_refl _)] at this
                  exact this
                have B6r := hV.below
                clear hV ht
                have RV := Lib.hid (reverseVal_c hV2 (by rw [List.length_map, HDL.out]) (by omega))
                have O6 := Lib.hid hV2
                have HB6 := Lib.hid B6r
                obtain ⟨t3, t4, rfl⟩ := own_len hV2
                clear hV2 B6r
                go_wp2_with fail
                refine RV.out.mono ?_
                rintro r w7 ⟨rfl, o7, hk7⟩
                have B67 : Below w6.heap.size w6 w7 := HB6.out.trans (hk7.below (fun b hb _ z => by have := (O6.out.lt b z).1; omega) HB6.out.size)
                have V7 : Hid (Vls w7 (.slice t3 N t4) (((runFrom Md.init ns).seq l).map (runFrom Md.init ns).val)) := by
                  show Sl _ _ _ _
                  rw [List.length_map, HN.out]
                  have := Sl.of_own o7
                  rw [← List.map_reverse, show (dir true ((runFrom Md.init ns).seq l)).reverse = (runFrom Md.init ns).seq l by simp [dir]] at this
                  exact this
                have A7 := Lib.hid (A6.out.later B67)
                have L7 := Lib.hid (S46.out.later B67)
                clear RV O6 HB6 o7 hk7 B67
                go_wp2_with fail
                refine wp_region_T (fun X : World => X.cell? ⟨w1.heap.size, 0, none⟩ = some (.slice y1 ns.length y2) ∧ X.cell? ⟨w1.heap.size, 1, none⟩ = some (.int .i64 (l : Nat)) ∧ X.cell? ⟨w1.heap.size, 2, none⟩ = some (.slice x1 N x2) ∧ X.cell? ⟨w2.heap.size, 2, none⟩ = some (.slice da N dc)) [3, 11, 12, 13] [] run_mixed ?_
                simp only [List.size_toArray, List.length_cons, List.length_nil]
                have HSW : Hid (∀ W, Below w7.heap.size w7 W → (fun X : World => X.cell? ⟨w1.heap.size, 0, none⟩ = some (.slice y1 ns.length y2) ∧ X.cell? ⟨w1.heap.size, 1, none⟩ = some (.int .i64 (l : Nat)) ∧ X.cell? ⟨w1.heap.size, 2, none⟩ = some (.slice x1 N x2) ∧ X.cell? ⟨w2.heap.size, 2, none⟩ = some (.slice da N dc)) W) := fun W hb => ⟨cell_of_heap (o := 0) (heap_later A7.out.box hb) rfl, cell_of_heap (o := 1) (heap_later A7.out.box hb) rfl, cell_of_heap (o := 2) (heap_later A7.out.box hb) rfl, cell_of_heap (o := 2) (heap_later A7.out.sgt hb) rfl⟩
                have hbd : Below w7.heap.size w7 w7.drew := (Below.refl _ w7).drew
                have HS2 := HSW.out _ hbd
                refine wpT_takeG (i := 0) (v := ?vtc0) rfl (by kernel_rfl) (fun _ _ _ h => h) rfl ?ytc0 ?rtc0
                case ytc0 => ((intro wz; go_simp); try with_reducible rfl)
                try simp only [Act.put, List.setIfInBounds_toArray, List.set_cons_zero, List.set_cons_succ]
                refine wpT_takeG (i := 1) (v := ?vtc1) rfl (by kernel_rfl) (fun _ _ _ h => h) rfl ?ytc1 ?rtc1
                case ytc1 => ((intro wz; go_simp); try with_reducible rfl)
                try simp only [Act.put, List.setIfInBounds_toArray, List.set_cons_zero, List.set_cons_succ]
                refine wpT_loadG (i := 2) (v := ?vtc2) rfl (by kernel_rfl) (fun _ _ _ h => h) rfl ?ytc2 HS2 ?rtc2
                case ytc2 => ((intro wz hSw; (try dsimp only at hSw); go_split_ands; go_simp); try with_reducible rfl)
                try simp only [Act.put, List.setIfInBounds_toArray, List.set_cons_zero, List.set_cons_succ]
                refine wpT_runG (i := 3) (by kernel_rfl) rfl rfl ?_
                go_simp
                refine (equalVal_c (Sl.later V7.out hbd) (Sl.later A7.out.vals hbd) (by rw [List.length_map, HN.out]; omega)).mono ?_
                rintro r w8 ⟨rfl, d, rfl⟩
                have H8 : Hid (Below w7.heap.size w7 (w7.drew.drewN d)) := Below.drewN' hbd d
                generalize w7.drew.drewN d = w8 at *
                refine ⟨cond_keep (by decide) (HSW.out _ H8.out), ?_⟩
                have HS3 := HSW.out _ H8.out
                clear HS2 hbd
                refine wpT_takeG (i := 4) (v := ?vtd4) rfl (by kernel_rfl) (fun _ _ _ h => h) rfl ?ytd4 ?rtd4
                case ytd4 => ((intro wz; go_simp); try with_reducible rfl)
                try simp only [Act.put, List.setIfInBounds_toArray, List.set_cons_zero, List.set_cons_succ]
                refine wpT_takeG (i := 5) (v := ?vtd5) rfl (by kernel_rfl) (fun _ _ _ h => h) rfl ?ytd5 ?rtd5
                case ytd5 => ((intro wz; go_simp); try with_reducible rfl)
                try simp only [Act.put, List.setIfInBounds_toArray, List.set_cons_zero, List.set_cons_succ]
                refine wpT_takeG (i := 6) (v := ?vtd6) rfl (by kernel_rfl) (fun _ _ _ h => h) rfl ?ytd6 ?rtd6
                case ytd6 => ((intro wz; go_simp); try with_reducible rfl)
                try simp only [Act.put, List.setIfInBounds_toArray, List.set_cons_zero, List.set_cons_succ]
                refine wpT_loadG (i := 7) (v := ?vtd7) rfl (by kernel_rfl) (fun _ _ _ h => h) rfl ?ytd7 HS3 ?rtd7
                case ytd7 => ((intro wz hSw; (try dsimp only at hSw); go_split_ands; go_simp); try with_reducible rfl)
                try simp only [Act.put, List.setIfInBounds_toArray, List.set_cons_zero, List.set_cons_succ]
                refine wpT_takeG (i := 8) (v := ?vtd8) rfl (by kernel_rfl) (fun _ _ _ h => h) rfl ?ytd8 ?rtd8
                case ytd8 => ((intro wz; go_simp); try with_reducible rfl)
                try simp only [Act.put, List.setIfInBounds_toArray, List.set_cons_zero, List.set_cons_succ]
                refine wpT_loadG (i := 9) (v := ?vtd9) rfl (by kernel_rfl) (fun _ _ _ h => h) rfl ?ytd9 HS3 ?rtd9
                case ytd9 => ((intro wz hSw; (try dsimp only at hSw); go_split_ands; go_simp); try with_reducible rfl)
                try simp only [Act.put, List.setIfInBounds_toArray, List.set_cons_zero, List.set_cons_succ]
                refine wpT_takeG (i := 10) (v := ?vtd10) rfl (by kernel_rfl) (fun _ _ _ h => h) rfl ?ytd10 ?rtd10
                case ytd10 => ((intro wz; go_simp); try with_reducible rfl)
                try simp only [Act.put, List.setIfInBounds_toArray, List.set_cons_zero, List.set_cons_succ]
                refine wpT_runG (i := 11) (by kernel_rfl) rfl rfl ?_
                go_simp
                have B9 := below1 w8 (.cells #[.int .i64 14, .int .i64 0, .int .i64 0, .int .i64 0, .int .i64 0, .int .i64 0, .int .i64 0, .string ⟨#[]⟩] 29)
                have SI : Scr (w8.alloc (.cells #[.int .i64 14, .int .i64 0, .int .i64 0, .int .i64 0, .int .i64 0, .int .i64 0, .int .i64 0, .string ⟨#[]⟩] 29)) (.slice (some ⟨w8.heap.size, 0, none⟩) 1 1) [cMv 14 0 0] := scr_lit w8 [cMv 14 0 0] 29 w8.heap.size 1 rfl rfl (by simp [cMv]; exact vl_zero_ok)
                have H9 := Lib.hid (H8.out.trans (B9.mono H8.out.size))
                generalize hw9 : w8.alloc (.cells #[.int .i64 14, .int .i64 0, .int .i64 0, .int .i64 0, .int .i64 0, .int .i64 0, .int .i64 0, .string ⟨#[]⟩] 29) = w9 at *
                refine ⟨cond_keep (by decide) (HSW.out _ H9.out), ?_⟩
                refine wpT_runG (i := 12) (by kernel_rfl) rfl rfl ?_
                go_simp
                refine (with_c (l := l) (A7.out.scr.later H9.out) SI ⟨_, _, _, rfl⟩ (by simp; omega)).mono ?_
                rintro r wa ⟨v10, rfl, s10, hb10⟩
                have H10 := Lib.hid (H9.out.trans (hb10.mono H9.out.size))
                refine ⟨cond_keep (by decide) (HSW.out _ H10.out), ?_⟩
                refine wpT_runG (i := 13) (by kernel_rfl) rfl rfl ?_
                go_simp
                refine (alike_c (A7.out.scr.later H10.out) (L7.out.later H10.out) s10 LAWT.out.1 LAWT.out.2.1 (fun k hk => by rw [runFrom_append]; exact run_isL_mono _ (mem_lists k hk)) (fun k hk => by rw [runFrom_append]; exact run_isL_mono _ (mem_lists k hk)) (fun k _ => LAWT.out.2.2.1 k) (by decide) (by omega) (by rw [List.length_append, List.length_map, hcl.out]; omega) (by simp; omega)).mono ?_
                rintro r wf ⟨rfl, hbf⟩
                have H11 := Lib.hid (H10.out.trans (hbf.mono H10.out.size))
                refine ⟨cond_keep (by decide) (HSW.out _ H11.out), ?_⟩
                have AF := Lib.hid (A7.out.later H11.out)
                clear HS3 B9 SI hw9 s10 hb10 hbf
                refine wpT_takeG (i := 14) (v := ?vte14) rfl (by kernel_rfl) (fun _ _ _ h => h) rfl ?yte14 ?rte14
                case yte14 => ((intro wz; go_simp); try with_reducible rfl)
                try simp only [Act.put, List.setIfInBounds_toArray, List.set_cons_zero, List.set_cons_succ]
                refine wpT_takeG (i := 15) (v := ?vte15) rfl (by kernel_rfl) (fun _ _ _ h => h) rfl ?yte15 ?rte15
                case yte15 => ((intro wz; go_simp); try with_reducible rfl)
                try simp only [Act.put, List.setIfInBounds_toArray, List.set_cons_zero, List.set_cons_succ]
                refine wpT_done (by kernel_rfl) ?_ _
                go_wp2
                go_roundg 0
                case measure => omega
                case rel => exact ⟨2, rfl, by go_num, AF.out⟩
              · have htl : t < 2 * N := by omega
                obtain ⟨a, ha⟩ : ∃ a, ANS[t]? = some a := ⟨_, List.getElem?_eq_getElem (by have := HAL.out; omega)⟩
                obtain ⟨tb, tq, tc, hv, hcell⟩ := S6.out.elem An.cells_length (by decide) (by intro q; rw [q] at ha; simp at ha)
                rw [HAL.out] at hv
                simp only [Value.slice.injEq] at hv
                obtain ⟨rfl, _, rfl⟩ := hv
                have tbl : tb < w6.heap.size := World.block_lt_of_cell? w6 _ (hcell t a ha 0 _ rfl)
                have cc : ∀ i y, a.cells[i]? = some y → wr.cell? ⟨tb, tq + t * 5 + i, none⟩ = some y := fun i y hy => by rw [hV.below.cell (p := ⟨tb, tq + t * 5 + i, none⟩) tbl, Nat.add_assoc]; exact hcell t a ha i y hy
                have e0 := cc 0 _ rfl; have e1 := cc 1 _ rfl; have e2 := cc 2 _ rfl; have e3 := cc 3 _ rfl; have e4 := cc 4 _ rfl
                simp only [Nat.add_zero] at e0
                have HV := Lib.hid hV; have HT := Lib.hid ht
                by_cases hodd : t % 2 = 1
                · obtain ⟨ei, hei⟩ : ∃ e, (dir true ((runFrom Md.init ns).seq l))[t / 2]? = some e := ⟨_, List.getElem?_eq_getElem (by have := HDL.out; omega)⟩
                  have hax := LAWT4.out (t / 2) ei hei
                  rw [show 2 * (t / 2) + 1 = t by omega, ha] at hax
                  have hae : a = ⟨-1, 0, (runFrom Md.init ns).val ei⟩ := Option.some.inj hax
                  have hx : ((dir true ((runFrom Md.init ns).seq l)).map (runFrom Md.init ns).val)[t / 2]? = some ((runFrom Md.init ns).val ei) := by rw [List.getElem?_map, hei]; rfl
                  generalize hvx : (runFrom Md.init ns).val ei = vx at *
                  subst hae
                  have HX := Lib.hid hx; have HO := Lib.hid hodd
                  have qm : ((t : Int) % 2 == 1) = true := by
                    have : (t : Int) % 2 = 1 := by omega
                    simp [this]
                  have hq2 : t / 2 ≤ 500 := by omega
                  clear hV ht ha hcell cc hax hei hvx hx hodd
                  go_wp2_with (at_builtin; refine wpList_app2 rfl (.tmp 80) (.tmp 83) 55 rfl w6.heap.size 27 _ 3 32 Try.underlying55 Try.infoIValue rfl (by decide) _ _ _ rfl ((HV.out.own.alloc _).alloc _) _ 1 vx.cells rfl (sl_at' _ _ _ _ _ _ (by simp)) rfl (by simp [Vl.cells, Value.oneCell']) (.inr (.inr (by decide))) (by omega) (by decide) (by simp; omega) ?_; intro vv' w5 hown hg hnn; have N5 := Lib.hid (HV.out.next HO.out HX.out hown hg); clear hown hg hnn)
                  go_roundg (gk - 1)
                  case measure => omega
                  case rel => exact ⟨t + 1, by have := HT.out; omega, by go_num, N5.out⟩
                · have N5 := Lib.hid (fun o => hV.skip (by omega) o)
                  have qm : ((t : Int) % 2 == 1) = false := by
                    have : (t : Int) % 2 = 0 := by omega
                    simp [this]
                  clear hV ht ha hcell cc hodd
                  go_wp2
                  go_roundg (gk - 1)
                  case measure => omega
                  case rel => exact ⟨t + 1, by have := HT.out; omega, by go_num, N5.out _⟩
          · have htN : t < N := by omega
            have HE := Lib.hid hE; have HT := Lib.hid ht
            clear hE ht AR
            go_wp2_with (at_builtin; refine wpList_app2 rfl (.tmp 47) (.tmp 57) 22 rfl wo.heap.size 29 _ 8 72 Try.underlying22 Try.infoICall rfl (by decide) _ _ _ rfl (HE.out.own.alloc _) _ 2 [.int .i64 (if true then 16 else 15), .int .i64 0, .int .i64 0, .int .i64 0, .int .i64 0, .int .i64 0, .int .i64 0, .string ⟨#[]⟩, .int .i64 11, .int .i64 0, .int .i64 0, .int .i64 ((ns.length : Int) + 2 * (t : Int)), .int .i64 0, .int .i64 0, .int .i64 0, .string ⟨#[]⟩] rfl (sl_at' _ _ _ _ _ _ (by simp)) rfl (by simp [Value.oneCell']) (.inr (.inr (by decide))) (by omega) (by decide) (by simp; omega) ?_; intro vc' w5 hown hg hnn; have N5 := Lib.hid (HE.out.next (ec_cells true ns.length t) hown hg); clear hown hg hnn)
            go_roundg (gk - 1)
            case measure => omega
            case rel => exact ⟨t + 1, by have := HT.out; omega, by go_num, N5.out⟩
  · simp only [scene0]
    go_wp2
    go_ret
    refine ⟨rfl, ?_⟩
    exact B1.out.trans ((below1 _ _).mono B1.out.size)
end Bead
end Go.Proofs.Ytdmichkekipdpaa
