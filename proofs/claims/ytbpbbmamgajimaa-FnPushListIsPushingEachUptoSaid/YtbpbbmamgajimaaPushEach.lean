/- FnPushListIsPushingEach returns true. -/
import Derived.Test.YtbpbbmamgajimaaScene2
import Derived.Test.YtbpbbmamgajimaaMoves
import Derived.Test.YtbpbbmamgajimaaLast4
set_option linter.all false
namespace Go.Proofs.Ytbpbbmamgajimaa
open Go.RowKit
namespace Bead
set_option maxRecDepth 100000

theorem grown1c {w w2 : World} {o : Obj} {row : Option Nat} (hg : (w.alloc o).grownBy w2 row) : Keeps (fun k => row = some k) w w2 := ((Keeps.refl _ w).alloc o).grown hg (fun _ q _ => q)
/-- A round: two rows of calls that grow side by side. -/
structure DuoAt (w wr : World) (A B : List Cl) (k : Nat) (va vb : Value) : Prop where
  one : wr.ownsRow w.heap.size 29 8 va k ((A.take k).flatMap Cl.cells)
  two : wr.ownsRow w.heap.size 29 8 vb k ((B.take k).flatMap Cl.cells)
  dis : ∀ b, va.ownBlock = some b → ¬ vb.ownBlock = some b
  below : Below w.heap.size w wr
theorem cl_snoc2 {A : List Cl} {k : Nat} {a : Cl} (h : A[k]? = some a) : (A.take (k + 1)).flatMap Cl.cells = (A.take k).flatMap Cl.cells ++ a.cells := by
  obtain ⟨hk, e⟩ := List.getElem?_eq_some_iff.1 h
  rw [List.take_succ_eq_append_getElem hk, e]; simp
theorem DuoAt.app1 {w wr w5 : World} {A B : List Cl} {k : Nat} {va vb va' : Value} {a : Cl} {o : Obj} (h : DuoAt w wr A B k va vb) (ha : A[k]? = some a)
    (hown : w5.ownsRow w.heap.size 29 8 va' (k + 1) ((A.take k).flatMap Cl.cells ++ a.cells)) (hg : (wr.alloc o).grownBy w5 va.ownBlock) (hnn : ∀ b, va'.ownBlock = some b → va.ownBlock = some b ∨ (wr.alloc o).heap.size ≤ b) :
    w5.ownsRow w.heap.size 29 8 va' (k + 1) ((A.take (k + 1)).flatMap Cl.cells) ∧ w5.ownsRow w.heap.size 29 8 vb k ((B.take k).flatMap Cl.cells) ∧ (∀ b, va'.ownBlock = some b → ¬ vb.ownBlock = some b) ∧ Below w.heap.size w w5 := by
  have hk := grown1c hg
  refine ⟨by rw [cl_snoc2 ha]; exact hown, own_keeps h.two hk (fun b q z => h.dis b z q), fun b q z => ?_, h.below.trans (hk.below (fun b hb _ z => by have := (h.one.lt b z).1; omega) h.below.size)⟩
  rcases hnn b q with r | r
  · exact h.dis b r z
  · have := (h.two.lt b z).2
    simp at r
    omega
theorem DuoAt.app2 {w w5 w6 : World} {A B : List Cl} {k : Nat} {va vb vb' : Value} {b : Cl} {o : Obj} (h1 : w5.ownsRow w.heap.size 29 8 va (k + 1) ((A.take (k + 1)).flatMap Cl.cells)) (h2 : w5.ownsRow w.heap.size 29 8 vb k ((B.take k).flatMap Cl.cells)) (h3 : ∀ b, va.ownBlock = some b → ¬ vb.ownBlock = some b) (h4 : Below w.heap.size w w5) (hb : B[k]? = some b)
    (hown : w6.ownsRow w.heap.size 29 8 vb' (k + 1) ((B.take k).flatMap Cl.cells ++ b.cells)) (hg : (w5.alloc o).grownBy w6 vb.ownBlock) (hnn : ∀ b, vb'.ownBlock = some b → vb.ownBlock = some b ∨ (w5.alloc o).heap.size ≤ b) : DuoAt w w6 A B (k + 1) va vb' := by
  have hk := grown1c hg
  refine ⟨own_keeps h1 hk (fun b q z => h3 b q z), by rw [cl_snoc2 hb]; exact hown, fun b q z => ?_, h4.trans (hk.below (fun b hb _ z => by have := (h2.lt b z).1; omega) h4.size)⟩
  rcases hnn b z with r | r
  · exact h3 b q r
  · have := (h1.lt b q).2
    simp at r
    omega

theorem DuoAt.later {w wr w5 : World} {A B : List Cl} {k : Nat} {va vb : Value} (h : DuoAt w wr A B k va vb) (hb : Below wr.heap.size wr w5) : DuoAt w w5 A B k va vb :=
  ⟨own_below h.one hb, own_below h.two hb, h.dis, h.below.trans (hb.mono h.below.size)⟩

set_option maxHeartbeats 16000000 in
theorem pushEach_c {w : World} {v : Value} {cs : List Cl} (s : Scr w v cs) (hn : cs.length ≤ 1048576) (n m : Int) :
    Calls Try.prog 7 #[v, .int .i64 n, .int .i64 m] w fun r w' => r = .returned (.bool true) ∧ Below w.heap.size w w' := by
  have ST := Lib.hid (set_c s hn n)
  have S := Lib.hid s
  clear s
  go_enter Try.func7, Try.ntmps7
  go_wp2_with fail
  refine ST.out.mono ?_
  rintro r w1 ⟨hb1, hcase⟩
  have B1 := Lib.hid hb1
  clear hb1 ST
  rcases hcase with ⟨l, vs, ve, rfl, hsc, hok0, hl0, hs1, hn1⟩ | rfl
  · have SC := Lib.hid hsc; have S1 := Lib.hid hs1
    have LO := Lib.hid (named_lists cs)
    have HL0 := Lib.hid hl0
    have LS := Lib.hid (fun o => lists_c ((S.out.later B1.out).later (below1 w1 o)) (by omega))
    have hll : (listsOf cs).length ≤ cs.length := listsAt_length cs 0
    generalize hns : namedC cs = ns at *
    clear hns hsc hok0 hl0
    obtain ⟨y1, y2, rfl⟩ := hs1.form
    obtain ⟨x1, x2, rfl⟩ := hn1.form
    have LN := SC.out.len
    generalize ((runFrom Md.init ns).names ((runFrom Md.init ns).seq l)).length = NE at *
    clear hs1 hn1
    go_wp2_with fail
    refine (LS.out _).mono ?_
    rintro r w2 ⟨vl, rfl, rl, hb2⟩
    have BX := Lib.hid (heap_later (heap_alloc_new w1 (.cells #[.slice y1 ns.length y2, .int .i64 (l : Nat), .slice x1 NE x2] 46)) hb2)
    have B2 := Lib.hid (B1.out.trans (((below1 w1 _).trans (hb2.mono (by simp))).mono B1.out.size))
    have S2 := Lib.hid ((S1.out.later (below1 w1 _)).later hb2)
    have NT : Nats w2 vl (listsOf cs) := Nats.of_own rl
    have CH := Lib.hid (chosen_c NT (by intro q; have := HL0.out; rw [q] at this; simp at this) (by omega) m)
    clear hb2 rl LS NT
    go_wp2_with fail
    refine CH.out.mono ?_
    rintro r w2' ⟨o, ho, rfl, rfl⟩
    obtain ⟨w2, rfl⟩ : ∃ W, W = w2' := ⟨_, rfl⟩
    have HO := Lib.hid ho
    have b0 := cell_of_heap (o := 0) BX.out rfl
    have b1 := cell_of_heap (o := 1) BX.out rfl
    have b2 := cell_of_heap (o := 2) BX.out rfl
    clear CH ho
    have z1 : w1.heap.size < w2.heap.size := (Array.getElem?_eq_some_iff.1 BX.out).1
    have WA : Hid (Calls Try.prog 28 #[.agg #[.slice y1 ns.length y2, .int .i64 (l : Nat), .slice x1 NE x2], .slice (some ⟨w2.heap.size, 0, none⟩) 1 1] (w2.alloc (.cells #[.int .i64 12, .int .i64 0, .int .i64 (o : Nat), .int .i64 0, .int .i64 0, .int .i64 0, .int .i64 0, .string ⟨#[]⟩] 29)) fun r w' => ∃ v', r = .returned v' ∧ Scr w' v' (ns ++ [cLs 12 o].map (onL l)) ∧ Below (w2.alloc (.cells #[.int .i64 12, .int .i64 0, .int .i64 (o : Nat), .int .i64 0, .int .i64 0, .int .i64 0, .int .i64 0, .string ⟨#[]⟩] 29)).heap.size (w2.alloc (.cells #[.int .i64 12, .int .i64 0, .int .i64 (o : Nat), .int .i64 0, .int .i64 0, .int .i64 0, .int .i64 0, .string ⟨#[]⟩] 29)) w') :=
      with_c (cl := [cLs 12 o]) (S2.out.later (below1 w2 _)) (scr_lit w2 [cLs 12 o] 29 w2.heap.size 1 rfl rfl (by simp [cLs]; exact vl_zero_ok)) ⟨_, _, _, rfl⟩ (by simp; omega)
    go_wp2_with fail
    refine WA.out.mono ?_
    rintro r w3 ⟨v3, rfl, s3, hb3⟩
    have hb23 := (below1 w2 _).trans (hb3.mono (by simp))
    have BX3 := Lib.hid (heap_later BX.out hb23)
    have B3 := Lib.hid (B2.out.trans (hb23.mono B2.out.size))
    have S3 := Lib.hid (S2.out.later hb23)
    have PM := Lib.hid (permittedL_c s3.sl (by simp; omega))
    clear hb3 s3 WA hb23 b0 b1 b2 BX B2 S2
    go_wp2_with fail
    refine PM.out.mono ?_
    rintro r w4 ⟨rfl, hb4⟩
    have BX4 := Lib.hid (heap_later BX3.out hb4)
    have B4 := Lib.hid (B3.out.trans (hb4.mono B3.out.size))
    have S4 := Lib.hid (S3.out.later hb4)
    clear hb4 PM BX3 B3 S3
    cases hok : okFrom 500 Md.init (ns ++ [cLs 12 o].map (onL l)) with
    | false =>
      clear hok
      go_wp2
      go_ret
      exact ⟨rfl, B4.out⟩
    | true =>
      have OK := Lib.hid hok
      clear hok
      have hol : (runFrom Md.init ns).isL o = true := mem_lists o (by rw [LO.out]; exact HO.out)
      have SE := Lib.hid (see_s S4.out SC.out.ok hol (by decide) (by omega))
      have hso : ((runFrom Md.init ns).seq o).length ≤ 500 := by
        have := SC.out.wf.seq_le o
        have := run_cnt_le _ SC.out.ok (by simp [Md.init])
        omega
      have PF := Lib.hid (push_each (o := o) SC.out false _ rfl OK.out)
      have PT := Lib.hid (push_each (o := o) SC.out true _ rfl OK.out)
      have VOK : Hid (∀ x ∈ ((runFrom Md.init ns).seq o).map (runFrom Md.init ns).val, x.ok) := fun x hx => by
        obtain ⟨e, _, rfl⟩ := List.mem_map.1 hx
        exact val_ok S4.out e
      simp only [Bool.false_eq_true, if_false] at PF
      simp only [if_true] at PT
      have b0 := cell_of_heap (o := 0) BX4.out rfl
      clear hol
      go_wp2_with fail
      refine SE.out.mono ?_
      rintro r w5 ⟨x, rfl, hse, _, hb5⟩
      obtain ⟨xe, xb, xv, xn⟩ := x
      generalize hVL : ((runFrom Md.init ns).seq o).map (runFrom Md.init ns).val = VL at *
      have hvl : VL.length ≤ 500 := by rw [← hVL, List.length_map]; exact hso
      obtain ⟨ea, en, ec, rfl⟩ : ∃ a n c, xe = .slice a n c := by obtain ⟨a, c, q⟩ := hse.reads.elems.form; exact ⟨a, _, c, q⟩
      obtain ⟨ba, bn, bc, rfl⟩ : ∃ a n c, xb = .slice a n c := by obtain ⟨a, c, q⟩ := hse.reads.back.form; exact ⟨a, _, c, q⟩
      have hrv := hse.reads.vals
      rw [hVL] at hrv
      obtain ⟨da, dc, rfl⟩ : ∃ a c, xv = .slice a VL.length c := by obtain ⟨a, c, q, _⟩ := hrv; exact ⟨a, c, q⟩
      have BX5 := Lib.hid (heap_later BX4.out hb5)
      have B5 := Lib.hid (B4.out.trans (hb5.mono B4.out.size))
      have S5 := Lib.hid (S4.out.later hb5)
      have RV := Lib.hid hrv
      have SBX := Lib.hid (heap_alloc_new w5 (.cells #[.slice ea en ec, .slice ba bn bc, .slice da VL.length dc, .int .i64 (xn : Nat)] 59))
      have hbs := below1 w5 (.cells #[.slice ea en ec, .slice ba bn bc, .slice da VL.length dc, .int .i64 (xn : Nat)] 59)
      have BX6 := Lib.hid (heap_later BX5.out hbs)
      have B6 := Lib.hid (B5.out.trans (hbs.mono B5.out.size))
      have S6 := Lib.hid (S5.out.later hbs)
      have RV6 := Lib.hid (Sl.later RV.out hbs)
      have z5 : w1.heap.size < w5.heap.size := (Array.getElem?_eq_some_iff.1 BX5.out).1
      simp only [SV.agg]
      clear hse hb5 hrv b0 SE hso hVL RV S5 B5 BX5 hbs
      go_wp2_with fail
      have hzx : w5.heap.size + 1 = (w5.alloc (.cells #[.slice ea en ec, .slice ba bn bc, .slice da VL.length dc, .int .i64 (xn : Nat)] 59)).heap.size := by simp
      generalize w5.alloc (.cells #[.slice ea en ec, .slice ba bn bc, .slice da VL.length dc, .int .i64 (xn : Nat)] 59) = wx at *
      go_loopg [13, 14, 57] VL.length (fun n va vb k wr => ∃ j, j + n = VL.length ∧ k = .int .i64 j ∧ DuoAt wx wr (VL.map fun x => cIns 4 0 x) (VL.reverse.map fun x => cIns 3 0 x) j va vb)
      case atStart => exact ⟨0, by omega, rfl, World.ownsRow_nil _ _ _ _, World.ownsRow_nil _ _ _ _, fun b q => by simp [Value.ownBlock] at q, Below.refl _ _⟩
      case round =>
        obtain ⟨j, hj, rfl, hT⟩ := hrel
        have BXr := heap_later BX6.out hT.below
        have SBr := heap_later SBX.out hT.below
        have lw : wx.heap.size ≤ wr.heap.size := hT.below.size
        by_cases hk0 : gk = 0
        · subst hk0
          obtain rfl : j = VL.length := by omega
          have hTr := hT.below
          obtain ⟨t1, t2, rfl⟩ := own_len hT.one
          obtain ⟨s1, s2, rfl⟩ := own_len hT.two
          have e1 : (VL.map fun x => cIns 4 0 x).take VL.length = VL.map fun x => cIns 4 0 x := List.take_of_length_le (by simp)
          have e2 : (VL.reverse.map fun x => cIns 3 0 x).take VL.length = VL.reverse.map fun x => cIns 3 0 x := List.take_of_length_le (by simp)
          have o1 := hT.one; have o2 := hT.two
          rw [e1] at o1; rw [e2] at o2
          have SA : Hid (Scr wr (.slice t1 VL.length t2) (VL.map fun x => cIns 4 0 x)) := Scr.of_own (B := wx.heap.size) (by rw [List.length_map]; exact o1) (fun c hc => by obtain ⟨i, hi, rfl⟩ := List.mem_map.1 hc; exact VOK.out i hi)
          have SB : Hid (Scr wr (.slice s1 VL.length s2) (VL.reverse.map fun x => cIns 3 0 x)) := Scr.of_own (B := wx.heap.size) (by rw [List.length_map, List.length_reverse]; exact o2) (fun c hc => by obtain ⟨i, hi, rfl⟩ := List.mem_map.1 hc; exact VOK.out i (List.mem_reverse.1 hi))
          have HSW : Hid (∀ W, Below wr.heap.size wr W → (fun X : World => X.cell? ⟨w1.heap.size, 0, none⟩ = some (.slice y1 ns.length y2) ∧ X.cell? ⟨w1.heap.size, 1, none⟩ = some (.int .i64 (l : Nat)) ∧ X.cell? ⟨w1.heap.size, 2, none⟩ = some (.slice x1 NE x2)) W) := fun W hb => ⟨cell_of_heap (o := 0) (heap_later BXr hb) rfl, cell_of_heap (o := 1) (heap_later BXr hb) rfl, cell_of_heap (o := 2) (heap_later BXr hb) rfl⟩
          have SN := Lib.hid (S6.out.later hTr)
          have Br := Lib.hid (B6.out.trans (hTr.mono B6.out.size))
          clear hT hTr e1 e2 o1 o2 BXr SBr hj
          go_wp2_with fail
          refine wp_region_T (fun X : World => X.cell? ⟨w1.heap.size, 0, none⟩ = some (.slice y1 ns.length y2) ∧ X.cell? ⟨w1.heap.size, 1, none⟩ = some (.int .i64 (l : Nat)) ∧ X.cell? ⟨w1.heap.size, 2, none⟩ = some (.slice x1 NE x2)) [5, 6, 9, 10, 17, 18, 21, 22] [] run_mixed ?_
          simp only [List.size_toArray, List.length_cons, List.length_nil]
          have hbd : Below wr.heap.size wr wr.drew := (Below.refl _ wr).drew
          have H0 := Lib.hid hbd
          generalize wr.drew = wk at *
          have HS := HSW.out _ hbd
          refine wpT_takeG (i := 0) (v := ?va0) rfl (by kernel_rfl) (fun _ _ _ h => h) rfl ?ya0 ?ra0
          case ya0 => ((intro wz; go_simp); try with_reducible rfl)
          try simp only [Act.put, List.setIfInBounds_toArray, List.set_cons_zero, List.set_cons_succ]
          refine wpT_loadG (i := 1) (v := ?va1) rfl (by kernel_rfl) (fun _ _ _ h => h) rfl ?ya1 HS ?ra1
          case ya1 => ((intro wz hSw; (try dsimp only at hSw); go_split_ands; go_simp); try with_reducible rfl)
          try simp only [Act.put, List.setIfInBounds_toArray, List.set_cons_zero, List.set_cons_succ]
          refine wpT_loadG (i := 2) (v := ?va2) rfl (by kernel_rfl) (fun _ _ _ h => h) rfl ?ya2 HS ?ra2
          case ya2 => ((intro wz hSw; (try dsimp only at hSw); go_split_ands; go_simp); try with_reducible rfl)
          try simp only [Act.put, List.setIfInBounds_toArray, List.set_cons_zero, List.set_cons_succ]
          refine wpT_takeG (i := 3) (v := ?va3) rfl (by kernel_rfl) (fun _ _ _ h => h) rfl ?ya3 ?ra3
          case ya3 => ((intro wz; go_simp); try with_reducible rfl)
          try simp only [Act.put, List.setIfInBounds_toArray, List.set_cons_zero, List.set_cons_succ]
          refine wpT_takeG (i := 4) (v := ?va4) rfl (by kernel_rfl) (fun _ _ _ h => h) rfl ?ya4 ?ra4
          case ya4 => ((intro wz; go_simp); try with_reducible rfl)
          try simp only [Act.put, List.setIfInBounds_toArray, List.set_cons_zero, List.set_cons_succ]
          refine wpT_loadG (i := 7) (v := ?va7) rfl (by kernel_rfl) (fun _ _ _ h => h) rfl ?ya7 HS ?ra7
          case ya7 => ((intro wz hSw; (try dsimp only at hSw); go_split_ands; go_simp); try with_reducible rfl)
          try simp only [Act.put, List.setIfInBounds_toArray, List.set_cons_zero, List.set_cons_succ]
          refine wpT_takeG (i := 8) (v := ?va8) rfl (by kernel_rfl) (fun _ _ _ h => h) rfl ?ya8 ?ra8
          case ya8 => ((intro wz; go_simp); try with_reducible rfl)
          try simp only [Act.put, List.setIfInBounds_toArray, List.set_cons_zero, List.set_cons_succ]
          refine wpT_runG (i := 5) (by kernel_rfl) rfl rfl ?_
          go_simp
          have hq1A := below1 wk (.cells #[.int .i64 12, .int .i64 0, .int .i64 (o : Nat), .int .i64 0, .int .i64 0, .int .i64 0, .int .i64 0, .string ⟨#[]⟩] 29)
          have SIA : Scr (wk.alloc (.cells #[.int .i64 12, .int .i64 0, .int .i64 (o : Nat), .int .i64 0, .int .i64 0, .int .i64 0, .int .i64 0, .string ⟨#[]⟩] 29)) (.slice (some ⟨wk.heap.size, 0, none⟩) 1 1) [cLs 12 o] := scr_lit wk [cLs 12 o] 29 wk.heap.size 1 rfl rfl (by simp [cLs]; exact vl_zero_ok)
          have HaA := Lib.hid (H0.out.trans (hq1A.mono H0.out.size))
          generalize hwxA : wk.alloc (.cells #[.int .i64 12, .int .i64 0, .int .i64 (o : Nat), .int .i64 0, .int .i64 0, .int .i64 0, .int .i64 0, .string ⟨#[]⟩] 29) = waA at *
          refine ⟨cond_keep (by decide) (HSW.out _ HaA.out), ?_⟩
          refine wpT_runG (i := 6) (by kernel_rfl) rfl rfl ?_
          go_simp
          refine (with_c (l := l) (SN.out.later HaA.out) SIA ⟨_, _, _, rfl⟩ (by simp; omega)).mono ?_
          rintro r wbA ⟨vbA, rfl, sbA, hbbA⟩
          have HbA := Lib.hid (HaA.out.trans (hbbA.mono HaA.out.size))
          refine ⟨cond_keep (by decide) (HSW.out _ HbA.out), ?_⟩
          refine wpT_runG (i := 9) (by kernel_rfl) rfl rfl ?_
          go_simp
          refine (with_c (l := l) (SN.out.later HbA.out) (SA.out.later HbA.out) ⟨_, _, _, rfl⟩ (by simp; omega)).mono ?_
          rintro r wcA ⟨vcA, rfl, scA, hbcA⟩
          have HcA := Lib.hid (HbA.out.trans (hbcA.mono HbA.out.size))
          refine ⟨cond_keep (by decide) (HSW.out _ HcA.out), ?_⟩
          refine wpT_runG (i := 10) (by kernel_rfl) rfl rfl ?_
          go_simp
          refine (valuesOfAll_c (SN.out.later HcA.out) (sbA.later hbcA) scA PF.out.1 PF.out.2.1 (fun k hk => by rw [runFrom_append]; exact run_isL_mono _ (mem_lists k hk)) (fun k hk => by rw [runFrom_append]; exact run_isL_mono _ (mem_lists k hk)) (fun k _ => PF.out.2.2 k) (by decide) (by omega) (by simp; omega) (by simp; omega)).mono ?_
          rintro r wdA ⟨rfl, hbdA⟩
          have HdA := Lib.hid (HcA.out.trans (hbdA.mono HcA.out.size))
          refine ⟨cond_keep (by decide) (HSW.out _ HdA.out), ?_⟩
          clear hq1A SIA hwxA sbA hbbA scA hbcA hbdA
          have HS2 := HSW.out _ HdA.out
          clear HS hbd
          refine wpT_takeG (i := 11) (v := ?vb11) rfl (by kernel_rfl) (fun _ _ _ h => h) rfl ?yb11 ?rb11
          case yb11 => ((intro wz; go_simp); try with_reducible rfl)
          try simp only [Act.put, List.setIfInBounds_toArray, List.set_cons_zero, List.set_cons_succ]
          refine wpT_takeG (i := 12) (v := ?vb12) rfl (by kernel_rfl) (fun _ _ _ h => h) rfl ?yb12 ?rb12
          case yb12 => ((intro wz; go_simp); try with_reducible rfl)
          try simp only [Act.put, List.setIfInBounds_toArray, List.set_cons_zero, List.set_cons_succ]
          refine wpT_loadG (i := 13) (v := ?vb13) rfl (by kernel_rfl) (fun _ _ _ h => h) rfl ?yb13 HS2 ?rb13
          case yb13 => ((intro wz hSw; (try dsimp only at hSw); go_split_ands; go_simp); try with_reducible rfl)
          try simp only [Act.put, List.setIfInBounds_toArray, List.set_cons_zero, List.set_cons_succ]
          refine wpT_loadG (i := 14) (v := ?vb14) rfl (by kernel_rfl) (fun _ _ _ h => h) rfl ?yb14 HS2 ?rb14
          case yb14 => ((intro wz hSw; (try dsimp only at hSw); go_split_ands; go_simp); try with_reducible rfl)
          try simp only [Act.put, List.setIfInBounds_toArray, List.set_cons_zero, List.set_cons_succ]
          refine wpT_takeG (i := 15) (v := ?vb15) rfl (by kernel_rfl) (fun _ _ _ h => h) rfl ?yb15 ?rb15
          case yb15 => ((intro wz; go_simp); try with_reducible rfl)
          try simp only [Act.put, List.setIfInBounds_toArray, List.set_cons_zero, List.set_cons_succ]
          refine wpT_takeG (i := 16) (v := ?vb16) rfl (by kernel_rfl) (fun _ _ _ h => h) rfl ?yb16 ?rb16
          case yb16 => ((intro wz; go_simp); try with_reducible rfl)
          try simp only [Act.put, List.setIfInBounds_toArray, List.set_cons_zero, List.set_cons_succ]
          refine wpT_loadG (i := 19) (v := ?vb19) rfl (by kernel_rfl) (fun _ _ _ h => h) rfl ?yb19 HS2 ?rb19
          case yb19 => ((intro wz hSw; (try dsimp only at hSw); go_split_ands; go_simp); try with_reducible rfl)
          try simp only [Act.put, List.setIfInBounds_toArray, List.set_cons_zero, List.set_cons_succ]
          refine wpT_takeG (i := 20) (v := ?vb20) rfl (by kernel_rfl) (fun _ _ _ h => h) rfl ?yb20 ?rb20
          case yb20 => ((intro wz; go_simp); try with_reducible rfl)
          try simp only [Act.put, List.setIfInBounds_toArray, List.set_cons_zero, List.set_cons_succ]
          refine wpT_runG (i := 17) (by kernel_rfl) rfl rfl ?_
          go_simp
          have hq1B := below1 wdA (.cells #[.int .i64 13, .int .i64 0, .int .i64 (o : Nat), .int .i64 0, .int .i64 0, .int .i64 0, .int .i64 0, .string ⟨#[]⟩] 29)
          have SIB : Scr (wdA.alloc (.cells #[.int .i64 13, .int .i64 0, .int .i64 (o : Nat), .int .i64 0, .int .i64 0, .int .i64 0, .int .i64 0, .string ⟨#[]⟩] 29)) (.slice (some ⟨wdA.heap.size, 0, none⟩) 1 1) [cLs 13 o] := scr_lit wdA [cLs 13 o] 29 wdA.heap.size 1 rfl rfl (by simp [cLs]; exact vl_zero_ok)
          have HaB := Lib.hid (HdA.out.trans (hq1B.mono HdA.out.size))
          generalize hwxB : wdA.alloc (.cells #[.int .i64 13, .int .i64 0, .int .i64 (o : Nat), .int .i64 0, .int .i64 0, .int .i64 0, .int .i64 0, .string ⟨#[]⟩] 29) = waB at *
          refine ⟨cond_keep (by decide) (HSW.out _ HaB.out), ?_⟩
          refine wpT_runG (i := 18) (by kernel_rfl) rfl rfl ?_
          go_simp
          refine (with_c (l := l) (SN.out.later HaB.out) SIB ⟨_, _, _, rfl⟩ (by simp; omega)).mono ?_
          rintro r wbB ⟨vbB, rfl, sbB, hbbB⟩
          have HbB := Lib.hid (HaB.out.trans (hbbB.mono HaB.out.size))
          refine ⟨cond_keep (by decide) (HSW.out _ HbB.out), ?_⟩
          refine wpT_runG (i := 21) (by kernel_rfl) rfl rfl ?_
          go_simp
          refine (with_c (l := l) (SN.out.later HbB.out) (SB.out.later HbB.out) ⟨_, _, _, rfl⟩ (by simp; omega)).mono ?_
          rintro r wcB ⟨vcB, rfl, scB, hbcB⟩
          have HcB := Lib.hid (HbB.out.trans (hbcB.mono HbB.out.size))
          refine ⟨cond_keep (by decide) (HSW.out _ HcB.out), ?_⟩
          refine wpT_runG (i := 22) (by kernel_rfl) rfl rfl ?_
          go_simp
          refine (valuesOfAll_c (SN.out.later HcB.out) (sbB.later hbcB) scB PT.out.1 PT.out.2.1 (fun k hk => by rw [runFrom_append]; exact run_isL_mono _ (mem_lists k hk)) (fun k hk => by rw [runFrom_append]; exact run_isL_mono _ (mem_lists k hk)) (fun k _ => PT.out.2.2 k) (by decide) (by omega) (by simp; omega) (by simp; omega)).mono ?_
          rintro r wdB ⟨rfl, hbdB⟩
          have HdB := Lib.hid (HcB.out.trans (hbdB.mono HcB.out.size))
          refine ⟨cond_keep (by decide) (HSW.out _ HdB.out), ?_⟩
          clear hq1B SIB hwxB sbB hbbB scB hbcB hbdB
          have BF := Lib.hid (Br.out.trans (HdB.out.mono Br.out.size))
          clear HS2
          refine wpT_takeG (i := 23) (v := ?vc23) rfl (by kernel_rfl) (fun _ _ _ h => h) rfl ?yc23 ?rc23
          case yc23 => ((intro wz; go_simp); try with_reducible rfl)
          try simp only [Act.put, List.setIfInBounds_toArray, List.set_cons_zero, List.set_cons_succ]
          refine wpT_takeG (i := 24) (v := ?vc24) rfl (by kernel_rfl) (fun _ _ _ h => h) rfl ?yc24 ?rc24
          case yc24 => ((intro wz; go_simp); try with_reducible rfl)
          try simp only [Act.put, List.setIfInBounds_toArray, List.set_cons_zero, List.set_cons_succ]
          refine wpT_done (by kernel_rfl) ?_ _
          go_wp2
          go_ret
          exact ⟨rfl, BF.out⟩
        · have hjE : j < VL.length := by omega
          have hjr : VL.length - 1 - j < VL.length := by omega
          obtain ⟨x, hx⟩ : ∃ x, VL[j]? = some x := ⟨_, List.getElem?_eq_getElem hjE⟩
          obtain ⟨y, hy⟩ : ∃ y, VL[VL.length - 1 - j]? = some y := ⟨_, List.getElem?_eq_getElem hjr⟩
          obtain ⟨db, dq, dp, hdv, hdcell⟩ := Sl.elem Vl.cells_length (by decide) RV6.out (by intro q; rw [q] at hx; simp at hx)
          simp only [Value.slice.injEq] at hdv
          obtain ⟨rfl, hzz, rfl⟩ := hdv
          clear hzz
          have dbl : db < wx.heap.size := World.block_lt_of_cell? wx _ (hdcell j x hx 0 _ rfl)
          have cx : ∀ t z, x.cells[t]? = some z → wr.cell? ⟨db, dq + j * 3 + t, none⟩ = some z := fun t z hz => by rw [hT.below.cell (p := ⟨db, dq + j * 3 + t, none⟩) dbl, Nat.add_assoc]; exact hdcell j x hx t z hz
          have CY : Hid (∀ t z, y.cells[t]? = some z → ∀ W, Below wx.heap.size wx W → W.cell? ⟨db, dq + (VL.length - 1 - j) * 3 + t, none⟩ = some z) := fun t z hz W hb => by rw [hb.cell (p := ⟨db, dq + (VL.length - 1 - j) * 3 + t, none⟩) dbl, Nat.add_assoc]; exact hdcell _ y hy t z hz
          have e0 := cx 0 _ rfl; have e1 := cx 1 _ rfl; have e2 := cx 2 _ rfl
          simp only [Nat.add_zero] at e0
          have ax : (VL.map fun x => cIns 4 0 x)[j]? = some (cIns 4 0 x) := by rw [List.getElem?_map, hx]; rfl
          have ay : (VL.reverse.map fun x => cIns 3 0 x)[j]? = some (cIns 3 0 y) := by rw [List.getElem?_map, List.getElem?_reverse hjE, hy]; rfl
          have AX := Lib.hid ax; have AY := Lib.hid ay; have HT := Lib.hid (fun o => hT.later (below1 wr o)); have HJ := Lib.hid hj
          have wq1 : IntKind.i64.wrap ((VL.length : Int) - 1) = (VL.length : Int) - 1 := by rw [IntKind.wrap_i64]; omega
          have wq2 : IntKind.i64.wrap ((VL.length : Int) - 1 - (j : Int)) = (VL.length : Int) - 1 - (j : Int) := by rw [IntKind.wrap_i64]; omega
          have wn1 : ((VL.length : Int) - 1 - (j : Int)).toNat = VL.length - 1 - j := by omega
          have w01 : 0 ≤ (VL.length : Int) - 1 - (j : Int) := by omega
          have c2 : (VL.length : Int) - 1 - (j : Int) < (VL.length : Int) := by omega
          clear hT hx hy ax ay hdcell hj BXr SBr cx
          go_wp2_with (first
            | (at_builtin; refine wpList_app2 rfl (.tmp 62) (.tmp 65) 22 rfl wx.heap.size 29 _ 8 72 Try.underlying22 Try.infoICall rfl (by decide) _ _ _ rfl ((HT.out _).one.alloc _) _ 1 (cIns 4 0 x).cells rfl (sl_at' _ _ _ _ _ _ (by simp)) rfl (by simp [Cl.cells, Value.oneCell']) (.inr (.inr (by decide))) (by omega) (by decide) (by simp; omega) ?_; intro va' w7 hown hg hnn; have M5 := Lib.hid ((HT.out _).app1 AX.out hown hg hnn); have c25 := cell_of_heap (o := 2) (heap_later SBX.out M5.out.2.2.2) rfl; have y0 := CY.out 0 _ rfl w7 M5.out.2.2.2; have y1' := CY.out 1 _ rfl w7 M5.out.2.2.2; have y2' := CY.out 2 _ rfl w7 M5.out.2.2.2; simp only [Nat.add_zero] at y0; have z7 := M5.out.2.2.2.size; clear hown hg hnn)
            | (at_builtin; refine wpList_app2 rfl (.tmp 67) (.tmp 79) 22 rfl wx.heap.size 29 _ 8 72 Try.underlying22 Try.infoICall rfl (by decide) _ _ _ rfl (M5.out.2.1.alloc _) _ 1 (cIns 3 0 y).cells rfl (sl_at' _ _ _ _ _ _ (by simp)) rfl (by simp [Cl.cells, Value.oneCell']) (.inr (.inr (by decide))) (by omega) (by decide) (by simp; omega) ?_; intro vb' w8 hown hg hnn; have M6 := Lib.hid (DuoAt.app2 M5.out.1 M5.out.2.1 M5.out.2.2.1 M5.out.2.2.2 AY.out hown hg hnn); clear hown hg hnn))
          go_roundg (gk - 1)
          case measure => omega
          case rel => exact ⟨j + 1, by have := HJ.out; omega, by go_num, M6.out⟩
  · simp only [scene0]
    have LS := Lib.hid (fun o => lists_c ((S.out.later B1.out).later (below1 w1 o)) (by omega))
    have hll : (listsOf cs).length ≤ cs.length := listsAt_length cs 0
    go_wp2_with fail
    refine (LS.out _).mono ?_
    rintro r w2 ⟨vl, rfl, rl, hb2⟩
    have B2 := Lib.hid (B1.out.trans (((below1 w1 _).trans (hb2.mono (by simp))).mono B1.out.size))
    have NT : Nats w2 vl (listsOf cs) := Nats.of_own rl
    clear hb2 rl LS
    by_cases hL : listsOf cs = []
    · have CH := Lib.hid (chosen_nil NT hL m)
      clear NT hL
      go_wp2_with fail
      refine CH.out.mono ?_
      rintro r w3 ⟨rfl, rfl⟩
      clear CH
      go_wp2
      go_ret
      exact ⟨rfl, B2.out⟩
    · have CH := Lib.hid (chosen_c NT hL (by omega) m)
      clear NT hL
      go_wp2_with fail
      refine CH.out.mono ?_
      rintro r w3 ⟨o, ho, rfl, rfl⟩
      clear CH
      go_wp2
      go_ret
      exact ⟨rfl, B2.out⟩
end Bead
end Go.Proofs.Ytbpbbmamgajimaa
