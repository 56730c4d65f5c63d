/- FnMoveIsRemoveAndInsert returns true. -/
import Derived.Test.YtbpbbmamgajimaaMoveEnds
set_option linter.all false
namespace Go.Proofs.Ytbpbbmamgajimaa
open Go.RowKit
namespace Bead
set_option maxRecDepth 100000

theorem ne_beq {i m : Nat} (h : ¬ i = m) : ((i : Int) == (m : Int)) = false := by
  have z : ¬ (i : Int) = (m : Int) := by omega
  simpa using z

set_option maxHeartbeats 4000000 in
theorem moveIns_c {w : World} {v : Value} {cs : List Cl} (s : Scr w v cs) (hn : cs.length ≤ 1048576) (n k k2 : Int) :
    Calls Try.prog 5 #[v, .int .i64 n, .int .i64 k, .int .i64 k2] w fun r w' => r = .returned (.bool true) ∧ Below w.heap.size w w' := by
  have ST := Lib.hid (set_c s hn n)
  clear s
  go_enter Try.func5, Try.ntmps5
  go_wp2_with fail
  refine ST.out.mono ?_
  rintro r w1 ⟨hb1, hcase⟩
  have B1 := Lib.hid hb1
  clear hb1 ST
  rcases hcase with ⟨l, vs, ve, rfl, hsc, hok0, hl0, hs1, hn1⟩ | rfl
  · have SC := Lib.hid hsc; have S1 := Lib.hid hs1; have N1 := Lib.hid hn1
    generalize hns : namedC cs = ns at *
    clear hns hsc hok0 hl0
    obtain ⟨y1, y2, rfl⟩ := hs1.form
    obtain ⟨x1, x2, rfl⟩ := hn1.form
    have NL := Lib.hid (names_length (m := runFrom Md.init ns) ((runFrom Md.init ns).seq l))
    have hlen := scene_len SC.out
    by_cases hE : (runFrom Md.init ns).names ((runFrom Md.init ns).seq l) = []
    · have CH := Lib.hid (fun k o => chosen_nil (hn1.later (below1 w1 o)) hE k)
      clear hs1 hn1 hE
      go_wp2_with fail
      refine (CH.out k _).mono ?_
      rintro r w2 ⟨rfl, rfl⟩
      go_wp2_with fail
      refine (CH.out k2 _).mono ?_
      rintro r w2 ⟨rfl, rfl⟩
      clear CH
      go_wp2
      go_ret
      exact ⟨rfl, B1.out.trans ((below1 w1 _).mono B1.out.size)⟩
    · have CH := Lib.hid (fun k o => chosen_c (hn1.later (below1 w1 o)) hE (by rw [NL.out]; omega) k)
      clear hs1 hn1 hE
      go_wp2_with fail
      refine (CH.out k _).mono ?_
      rintro r w2 ⟨i, hi, rfl, rfl⟩
      obtain ⟨e, he, hfe, hre⟩ := scene_elem SC.out hi
      go_wp2_with fail
      refine (CH.out k2 _).mono ?_
      rintro r w2 ⟨m, hm, rfl, rfl⟩
      by_cases him : i = m
      · subst him
        clear CH hi hm he hfe hre
        go_wp2
        go_ret
        exact ⟨rfl, B1.out.trans ((below1 w1 _).mono B1.out.size)⟩
      obtain ⟨x, hxs, hfx, hrx⟩ := scene_elem SC.out hm
      have HM := Lib.hid (And.intro hrx (And.intro hxs (show x ≠ e from fun q => him (by rw [q, hfe] at hfx; simpa using hfx))))
      have qim := ne_beq him
      clear hm hxs hfx hrx him
      have HE := Lib.hid he; have HR := Lib.hid hre
      have VC := Lib.hid (fun o => value_c (l := l) (ve := .slice x1 ((runFrom Md.init ns).names ((runFrom Md.init ns).seq l)).length x2) (S1.out.later (below1 w1 o)) SC.out.ok hre ⟨_, _, _, rfl⟩ (by decide) (by have := SC.out.len; omega))
      clear CH hi he hfe hre
      go_wp2_with fail
      refine (VC.out _).mono ?_
      rintro r w3 ⟨rfl, hb3⟩
      have B3 := Lib.hid (B1.out.trans (((below1 w1 _).trans (hb3.mono (by simp))).mono B1.out.size))
      have G3 := Lib.hid (heap_later (heap_alloc_new w1 _) hb3)
      have S3 := Lib.hid ((S1.out.later (below1 w1 _)).later hb3)
      have z3 : w1.heap.size < w3.heap.size := (Array.getElem?_eq_some_iff.1 G3.out).1
      have VO := Lib.hid (val_ok S1.out e)
      generalize hvx : (runFrom Md.init ns).val e = vx at *
      have HV := Lib.hid hvx
      simp only [Vl.agg]
      clear hb3 VC hvx
      generalize hN : ((runFrom Md.init ns).names ((runFrom Md.init ns).seq l)).length = N at *
      clear hN
      have P0 : Hid (PairAt w ((w3.alloc (.cells #[.int .i64 vx.kind, .int .i64 vx.n, .string vx.s] 27)).alloc (.cells #[.int .i64 9, .int .i64 5, .int .i64 10, .int .i64 6] 52)) w1.heap.size w3.heap.size (w3.heap.size + 1) (.slice y1 ns.length y2) (.slice x1 N x2) ns l vx 9 5 10 6) :=
        ⟨heap_more (heap_more G3.out _) _, heap_more (heap_alloc_new w3 _) _, by have := heap_alloc_new (w3.alloc (.cells #[.int .i64 vx.kind, .int .i64 vx.n, .string vx.s] 27)) (.cells #[.int .i64 9, .int .i64 5, .int .i64 10, .int .i64 6] 52); simpa using this,
          S3.out.later (below2 w3 _ _), B3.out.trans ((below2 w3 _ _).mono B3.out.size)⟩
      go_wp2_with fail
      go_loopg [62] 2 (fun n k wr => ∃ j, j + n = 2 ∧ k = .int .i64 j ∧ PairAt w wr w1.heap.size w3.heap.size (w3.heap.size + 1) (.slice y1 ns.length y2) (.slice x1 N x2) ns l vx 9 5 10 6)
      case atStart => exact ⟨0, rfl, rfl, P0.out⟩
      case round =>
        clear P0
        obtain ⟨j, hj, rfl, hP⟩ := hrel
        have B := Lib.hid hP.below
        have l1 : w1.heap.size < wr.heap.size := (Array.getElem?_eq_some_iff.1 hP.box).1
        have l2 : w3.heap.size < wr.heap.size := (Array.getElem?_eq_some_iff.1 hP.val).1
        have l3 : w3.heap.size + 1 < wr.heap.size := (Array.getElem?_eq_some_iff.1 hP.ops).1
        rcases (show j = 2 ∨ j = 0 ∨ j = 1 by omega) with rfl | hj01
        · obtain rfl : gk = 0 := by omega
          clear hP hj
          go_wp2
          go_ret
          exact ⟨rfl, B.out⟩
        · have b0 := cell_of_heap (o := 0) hP.box rfl
          have b1 := cell_of_heap (o := 1) hP.box rfl
          have b2 := cell_of_heap (o := 2) hP.box rfl
          have HP := Lib.hid hP
          have HL := Lib.hid (fun (m : List Cl) (k : Nat) (hk : k ∈ listsOf ns) => show (runFrom Md.init (ns ++ m)).isL k = true by rw [runFrom_append]; exact run_isL_mono m (mem_lists k hk))
          have LN := SC.out.len
          have HJ := Lib.hid hj
          rcases hj01 with rfl | rfl
          · have p0 := cell_of_heap (o := 0) hP.ops rfl
            have p1 := cell_of_heap (o := 1) hP.ops rfl
            obtain ⟨q1, q2, q3⟩ := move_insert SC.out (op := 9) (.inr (.inr (.inl rfl))) (x := x) (j := m) HE.out HR.out (fun _ => ⟨HM.out.1, HM.out.2.1, HM.out.2.2⟩)
            rw [HV.out] at q2 q3
            have Q1 := Lib.hid q1; have Q2 := Lib.hid q2; have Q3 := Lib.hid q3
            have WA : Hid (∀ o t, Calls Try.prog 28 #[.agg #[.slice y1 ns.length y2, .int .i64 (l : Nat), .slice x1 N x2], .slice (some ⟨wr.heap.size + 1, 0, none⟩) 1 1] ((wr.alloc o).alloc (.cells #[.int .i64 9, .int .i64 0, .int .i64 0, .int .i64 i, .int .i64 m, .int .i64 0, .int .i64 0, .string ⟨#[]⟩] t)) fun r w' => ∃ v', r = .returned v' ∧ Scr w' v' (ns ++ [cMv 9 i m].map (onL l)) ∧ Below ((wr.alloc o).alloc (.cells #[.int .i64 9, .int .i64 0, .int .i64 0, .int .i64 i, .int .i64 m, .int .i64 0, .int .i64 0, .string ⟨#[]⟩] t)).heap.size ((wr.alloc o).alloc (.cells #[.int .i64 9, .int .i64 0, .int .i64 0, .int .i64 i, .int .i64 m, .int .i64 0, .int .i64 0, .string ⟨#[]⟩] t)) w') := fun o t =>
              with_c (cl := [cMv 9 i m]) (HP.out.scr.later (below2 wr o _)) (scr_lit (wr.alloc o) [cMv 9 i m] t (wr.heap.size + 1) 1 (by simp) rfl (by simp [cMv]; exact vl_zero_ok)) ⟨_, _, _, rfl⟩ (by simp; omega)
            clear hP q1 q2 q3 hj
            go_wp2_with fail
            refine (WA.out _ _).mono ?_
            rintro r w4 ⟨va, rfl, sa, hb4⟩
            have P4 := Lib.hid ((HP.out.later (below2 wr _ _)).later hb4)
            have SA := Lib.hid sa
            have c0 := cell_of_heap (o := 0) P4.out.box rfl
            have c1 := cell_of_heap (o := 1) P4.out.box rfl
            have c2 := cell_of_heap (o := 2) P4.out.box rfl
            have v0 := cell_of_heap (o := 0) P4.out.val rfl
            have v1 := cell_of_heap (o := 1) P4.out.val rfl
            have v2 := cell_of_heap (o := 2) P4.out.val rfl
            have ob := heap_later (heap_more (heap_alloc_new wr _) _) hb4
            have d0 := cell_of_heap (o := 0) ob rfl
            have d1 := cell_of_heap (o := 1) ob rfl
            have WB : Hid (∀ t, Calls Try.prog 28 #[.agg #[.slice y1 ns.length y2, .int .i64 (l : Nat), .slice x1 N x2], .slice (some ⟨w4.heap.size, 0, none⟩) 2 2] (w4.alloc (.cells #[.int .i64 11, .int .i64 0, .int .i64 0, .int .i64 i, .int .i64 0, .int .i64 0, .int .i64 0, .string ⟨#[]⟩, .int .i64 5, .int .i64 0, .int .i64 0, .int .i64 0, .int .i64 m, .int .i64 vx.kind, .int .i64 vx.n, .string vx.s] t)) fun r w' => ∃ v', r = .returned v' ∧ Scr w' v' (ns ++ [cMv 11 i 0, cIns 5 m vx].map (onL l)) ∧ Below (w4.alloc (.cells #[.int .i64 11, .int .i64 0, .int .i64 0, .int .i64 i, .int .i64 0, .int .i64 0, .int .i64 0, .string ⟨#[]⟩, .int .i64 5, .int .i64 0, .int .i64 0, .int .i64 0, .int .i64 m, .int .i64 vx.kind, .int .i64 vx.n, .string vx.s] t)).heap.size (w4.alloc (.cells #[.int .i64 11, .int .i64 0, .int .i64 0, .int .i64 i, .int .i64 0, .int .i64 0, .int .i64 0, .string ⟨#[]⟩, .int .i64 5, .int .i64 0, .int .i64 0, .int .i64 0, .int .i64 m, .int .i64 vx.kind, .int .i64 vx.n, .string vx.s] t)) w') := fun t =>
              with_c (cl := [cMv 11 i 0, cIns 5 m vx]) (P4.out.scr.later (below1 w4 _)) (scr_lit w4 [cMv 11 i 0, cIns 5 m vx] t w4.heap.size 2 rfl rfl (by simp [cMv, cIns]; exact ⟨vl_zero_ok, VO.out⟩)) ⟨_, _, _, rfl⟩ (by simp; omega)
            clear hb4 sa WA b0 b1 b2 p0 p1 ob
            go_wp2_with fail
            refine (WB.out _).mono ?_
            rintro r w5 ⟨vb, rfl, sb, hb5⟩
            have P5 := Lib.hid ((P4.out.later (below1 w4 _)).later hb5)
            have SA5 := (SA.out.later (below1 w4 _)).later hb5
            have VA := Lib.hid (valuesOfAll_c P5.out.scr SA5 sb Q1.out Q2.out (HL.out _) (HL.out _) (fun k _ => Q3.out k) (by decide) (by omega) (by simp; omega) (by simp; omega))
            have e0 := cell_of_heap (o := 0) P5.out.box rfl
            clear hb5 sb SA5 WB c0 c1 c2 v0 v1 v2 d0 d1
            go_wp2_with fail
            refine VA.out.mono ?_
            rintro r w6 ⟨rfl, hb6⟩
            have P6 := Lib.hid (P5.out.later hb6)
            clear hb6 VA e0
            go_wp2
            go_roundg 1
            case measure => have := HJ.out; omega
            case rel => exact ⟨1, rfl, by go_num, P6.out⟩
          · have p0 := cell_of_heap (o := 2) hP.ops rfl
            have p1 := cell_of_heap (o := 3) hP.ops rfl
            obtain ⟨q1, q2, q3⟩ := move_insert SC.out (op := 10) (.inr (.inr (.inr rfl))) (x := x) (j := m) HE.out HR.out (fun _ => ⟨HM.out.1, HM.out.2.1, HM.out.2.2⟩)
            rw [HV.out] at q2 q3
            have Q1 := Lib.hid q1; have Q2 := Lib.hid q2; have Q3 := Lib.hid q3
            have WA : Hid (∀ o t, Calls Try.prog 28 #[.agg #[.slice y1 ns.length y2, .int .i64 (l : Nat), .slice x1 N x2], .slice (some ⟨wr.heap.size + 1, 0, none⟩) 1 1] ((wr.alloc o).alloc (.cells #[.int .i64 10, .int .i64 0, .int .i64 0, .int .i64 i, .int .i64 m, .int .i64 0, .int .i64 0, .string ⟨#[]⟩] t)) fun r w' => ∃ v', r = .returned v' ∧ Scr w' v' (ns ++ [cMv 10 i m].map (onL l)) ∧ Below ((wr.alloc o).alloc (.cells #[.int .i64 10, .int .i64 0, .int .i64 0, .int .i64 i, .int .i64 m, .int .i64 0, .int .i64 0, .string ⟨#[]⟩] t)).heap.size ((wr.alloc o).alloc (.cells #[.int .i64 10, .int .i64 0, .int .i64 0, .int .i64 i, .int .i64 m, .int .i64 0, .int .i64 0, .string ⟨#[]⟩] t)) w') := fun o t =>
              with_c (cl := [cMv 10 i m]) (HP.out.scr.later (below2 wr o _)) (scr_lit (wr.alloc o) [cMv 10 i m] t (wr.heap.size + 1) 1 (by simp) rfl (by simp [cMv]; exact vl_zero_ok)) ⟨_, _, _, rfl⟩ (by simp; omega)
            clear hP q1 q2 q3 hj
            go_wp2_with fail
            refine (WA.out _ _).mono ?_
            rintro r w4 ⟨va, rfl, sa, hb4⟩
            have P4 := Lib.hid ((HP.out.later (below2 wr _ _)).later hb4)
            have SA := Lib.hid sa
            have c0 := cell_of_heap (o := 0) P4.out.box rfl
            have c1 := cell_of_heap (o := 1) P4.out.box rfl
            have c2 := cell_of_heap (o := 2) P4.out.box rfl
            have v0 := cell_of_heap (o := 0) P4.out.val rfl
            have v1 := cell_of_heap (o := 1) P4.out.val rfl
            have v2 := cell_of_heap (o := 2) P4.out.val rfl
            have ob := heap_later (heap_more (heap_alloc_new wr _) _) hb4
            have d0 := cell_of_heap (o := 0) ob rfl
            have d1 := cell_of_heap (o := 1) ob rfl
            have WB : Hid (∀ t, Calls Try.prog 28 #[.agg #[.slice y1 ns.length y2, .int .i64 (l : Nat), .slice x1 N x2], .slice (some ⟨w4.heap.size, 0, none⟩) 2 2] (w4.alloc (.cells #[.int .i64 11, .int .i64 0, .int .i64 0, .int .i64 i, .int .i64 0, .int .i64 0, .int .i64 0, .string ⟨#[]⟩, .int .i64 6, .int .i64 0, .int .i64 0, .int .i64 0, .int .i64 m, .int .i64 vx.kind, .int .i64 vx.n, .string vx.s] t)) fun r w' => ∃ v', r = .returned v' ∧ Scr w' v' (ns ++ [cMv 11 i 0, cIns 6 m vx].map (onL l)) ∧ Below (w4.alloc (.cells #[.int .i64 11, .int .i64 0, .int .i64 0, .int .i64 i, .int .i64 0, .int .i64 0, .int .i64 0, .string ⟨#[]⟩, .int .i64 6, .int .i64 0, .int .i64 0, .int .i64 0, .int .i64 m, .int .i64 vx.kind, .int .i64 vx.n, .string vx.s] t)).heap.size (w4.alloc (.cells #[.int .i64 11, .int .i64 0, .int .i64 0, .int .i64 i, .int .i64 0, .int .i64 0, .int .i64 0, .string ⟨#[]⟩, .int .i64 6, .int .i64 0, .int .i64 0, .int .i64 0, .int .i64 m, .int .i64 vx.kind, .int .i64 vx.n, .string vx.s] t)) w') := fun t =>
              with_c (cl := [cMv 11 i 0, cIns 6 m vx]) (P4.out.scr.later (below1 w4 _)) (scr_lit w4 [cMv 11 i 0, cIns 6 m vx] t w4.heap.size 2 rfl rfl (by simp [cMv, cIns]; exact ⟨vl_zero_ok, VO.out⟩)) ⟨_, _, _, rfl⟩ (by simp; omega)
            clear hb4 sa WA b0 b1 b2 p0 p1 ob
            go_wp2_with fail
            refine (WB.out _).mono ?_
            rintro r w5 ⟨vb, rfl, sb, hb5⟩
            have P5 := Lib.hid ((P4.out.later (below1 w4 _)).later hb5)
            have SA5 := (SA.out.later (below1 w4 _)).later hb5
            have VA := Lib.hid (valuesOfAll_c P5.out.scr SA5 sb Q1.out Q2.out (HL.out _) (HL.out _) (fun k _ => Q3.out k) (by decide) (by omega) (by simp; omega) (by simp; omega))
            have e0 := cell_of_heap (o := 0) P5.out.box rfl
            clear hb5 sb SA5 WB c0 c1 c2 v0 v1 v2 d0 d1
            go_wp2_with fail
            refine VA.out.mono ?_
            rintro r w6 ⟨rfl, hb6⟩
            have P6 := Lib.hid (P5.out.later hb6)
            clear hb6 VA e0
            go_wp2
            go_roundg 0
            case measure => have := HJ.out; omega
            case rel => exact ⟨2, rfl, by go_num, P6.out⟩
  · have CH := Lib.hid (fun k o => chosen_nil ((nil_nats w1).later (below1 w1 o)) rfl k)
    simp only [scene0]
    go_wp2_with fail
    refine (CH.out k _).mono ?_
    rintro r w2 ⟨rfl, rfl⟩
    go_wp2_with fail
    refine (CH.out k2 _).mono ?_
    rintro r w2 ⟨rfl, rfl⟩
    clear CH
    go_wp2
    go_ret
    exact ⟨rfl, B1.out.trans ((below1 w1 _).mono B1.out.size)⟩
end Bead
end Go.Proofs.Ytbpbbmamgajimaa
