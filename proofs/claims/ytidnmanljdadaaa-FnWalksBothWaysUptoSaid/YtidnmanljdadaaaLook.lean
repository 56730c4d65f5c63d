/- The contract of (*player).look, a kind of call at a time: for every player in memory. -/
import Derived.Test.YtidnmanljdadaaaChange2
import Derived.Deep.Cut
import Derived.Deep.CutRange
set_option linter.all false
namespace Go.Proofs.Ytidnmanljdadaaa
open Go.RowKit
namespace Bead
set_option maxRecDepth 100000
theorem run_store_any {x u : Value} {W : World} {a : Addr} (h : IsAny x) (hc : W.cell? a = some u) (hf : W.frozen? a = false) : (store a x).run Try.prog W = .ok () (W.setCell a x) := by
  rcases h with rfl | ⟨t, y, rfl⟩ <;> simp [store, Sem.run, hc, hf]
theorem IsAny.notAgg {x : Value} (h : IsAny x) : ∀ cs, x = Value.agg cs → False := by rcases h with rfl | ⟨t, y, rfl⟩ <;> simp
theorem IsAny.notTuple {x : Value} (h : IsAny x) : ∀ cs, x = Value.tuple cs → False := by rcases h with rfl | ⟨t, y, rfl⟩ <;> simp
theorem IsAny.one {x : Value} (h : IsAny x) : x.cells = #[x] := by rcases h with rfl | ⟨t, y, rfl⟩ <;> rfl
section
variable {w : World} {B p pl pe N : Nat} {m : Md} {b : BM} {bl be : Nat → Nat} {i : Nat} {c : Cl}

theorem Rel.newLi (r : Rel m b bl be) (h : WF m) {M : Nat} (hi : m.isL i = false) (hM : ¬ b.node M) : Rel { m with isL := upd m.isL i true } (b.newList M) (upd bl i M) be := by
  have hne : ∀ j, m.isL j = true → ¬ j = i := fun j hj q => by subst q; rw [hi] at hj; simp at hj
  have hL : ∀ j, upd m.isL i true j = true ↔ (m.isL j = true ∨ j = i) := by
    intro j; by_cases q : j = i
    · subst q; simp [upd]
    · simp [upd, q]
  refine ⟨?_, r.E, ?_, r.einj, ?_, ?_⟩
  · intro k
    simp only [BM.newList, hL]
    constructor
    · rintro (q | q)
      · obtain ⟨j, hj, rfl⟩ := (r.L k).1 q
        exact ⟨j, .inl hj, (upd_other _ _ (hne j hj)).symm⟩
      · exact ⟨i, .inr rfl, by rw [upd_same]; exact q⟩
    · rintro ⟨j, hj | hj, rfl⟩
      · rw [upd_other _ _ (hne j hj)]; exact .inl (r.isList hj)
      · subst hj; rw [upd_same]; exact .inr rfl
  · intro j k hj hk
    simp only [hL] at hj hk
    by_cases q1 : j = i
    · by_cases q2 : k = i
      · intro _; rw [q1, q2]
      · have hk := hk.resolve_right q2
        rw [q1, upd_same, upd_other _ _ q2]
        intro q; subst q; exact absurd (.inl (r.isList hk)) hM
    · have hj := hj.resolve_right q1
      by_cases q2 : k = i
      · rw [q2, upd_same, upd_other _ _ q1]
        intro q; subst q; exact absurd (.inl (r.isList hj)) hM
      · rw [upd_other _ _ q1, upd_other _ _ q2]; exact r.linj j k hj (hk.resolve_right q2)
  · intro j hj
    simp only [hL] at hj
    simp only [BM.newList]
    by_cases q1 : j = i
    · subst q1; rw [upd_same, upd_same, h.emp _ hi]; rfl
    · have hj := hj.resolve_right q1
      rw [upd_other _ _ q1, upd_other _ _ (fun q => hM (by rw [← q]; exact .inl (r.isList hj)))]; exact r.sq j hj
  · intro e he
    simp only [BM.newList]
    rw [r.ow e he]
    have e1 : Md.own { m with isL := upd m.isL i true } e = m.own e := rfl
    rw [e1]
    cases ho : m.own e with
    | none => rfl
    | some l =>
      have hl : m.isL l = true := by
        unfold Md.own at ho
        cases hin : m.inn e with
        | none => rw [hin] at ho; simp at ho; exact (h.clr e l ho).2
        | some l' => rw [hin] at ho; simp at ho; subst ho; exact h.isL_of_mem ((h.mem _ e).2 hin)
      simp only [Option.map_some, upd_other _ _ (hne l hl)]

/-- A new list, stored at its number. -/
theorem IR.newL {W W' : World} (h : IR W B p pl pe N m b bl be) (hw : WF m) (hi : m.isL i = false) (hiN : i < N) (hrep : BRep W' (b.newList W.heap.size)) (hk : Keeps b.node W W') (hz : W'.heap.size = W.heap.size + 1) :
    IR (W'.setCell ⟨pl, i, none⟩ (.pointer (some ⟨W.heap.size, 0, none⟩))) B p pl pe N { m with isL := upd m.isL i true } (b.newList W.heap.size) (upd bl i W.heap.size) be ∧ Touch B W (W'.setCell ⟨pl, i, none⟩ (.pointer (some ⟨W.heap.size, 0, none⟩))) ∧
    W'.cell? ⟨p, 0, none⟩ = some (.slice (some ⟨pl, 0, none⟩) N N) ∧ W'.cell? ⟨pl, i, none⟩ = some (rowL m bl i) ∧ W'.frozen? ⟨pl, i, none⟩ = false := by
  have hM : ¬ b.node W.heap.size := fun q => Nat.lt_irrefl _ (h.rep.lt q)
  have hpc := (hk.block p h.plt h.p_not).trans h.pc
  have hlr := h.lrow.of_block (hk.block pl h.lrow.lt h.pl_not)
  have her := h.erow.of_block (hk.block pe h.erow.lt h.pe_not)
  have hnot : ∀ k, (b.newList W.heap.size).node k → ¬ k = pl := by
    rintro k ((q | q) | q) r
    · subst r; exact h.pl_not (.inl q)
    · have := h.lrow.lt; omega
    · subst r; exact h.pl_not (.inr q)
  refine ⟨⟨?_, ?_, ?_, ?_, h.rel.newLi hw hi hM, ?_, h.base.1, h.base.2.1, h.base.2.2.1, ?_⟩, ?_, cell_of_heap hpc rfl, hlr.cell hiN, hlr.free i⟩
  · rw [heap_set_other h.p_pl]; exact hpc
  · refine (hlr.set hiN (.pointer (some ⟨W.heap.size, 0, none⟩))).congr ?_
    intro j _
    simp only [rowL]
    by_cases q : j = i
    · subst q; simp only [upd_same, if_true]; rfl
    · simp only [upd_other _ _ q]; rfl
  · exact her.of_block (heap_set_other (fun q => h.pl_pe q.symm))
  · obtain ⟨nx, pv, a, g⟩ := hrep
    exact ⟨nx, pv, a.of_blocks (fun k q => heap_set_other (hnot k q)), g⟩
  · intro e he
    refine (h.vals e he).keep ?_
    intro k c q
    rw [heap_set_other]; exact h.vkeep hk k c q
    rintro rfl
    obtain ⟨d, hd, _⟩ := h.lrow; rw [q] at hd; simp at hd
  · rintro k ((q | q) | q)
    · exact h.base.2.2.2 k (.inl q)
    · have := h.plt; have := h.base.1; omega
    · exact h.base.2.2.2 k (.inr q)
  · refine (h.touch hk).trans ?_
    refine Keeps.setCell (Keeps.refl _ _) (p := ⟨pl, i, none⟩) (fun _ => ?_) _
    obtain ⟨c, h1, _⟩ := hlr
    exact ⟨h.base.2.1, c, _, _, h1, .inl rfl⟩

theorem IR.newE {W : World} (h : IR W B p pl pe N m b bl be) (hw : WF m) {v : Vl} {x : Value} (hx : VRep W (canon v) x) :
    IR (W.alloc (.cells #[.pointer none, .pointer none, .pointer none, x] 121)) B p pl pe N (m.make v none) (b.newElem W.heap.size x) bl (upd be m.cnt W.heap.size) := by
  have hM : ¬ b.node W.heap.size := fun q => Nat.lt_irrefl _ (h.rep.lt q)
  have hk : Keeps b.node W (W.alloc (.cells #[.pointer none, .pointer none, .pointer none, x] 121)) := (Keeps.refl _ _).alloc _
  refine h.change hk (h.rep.newElemZero x) (h.rel.newE hw hM v x) (fun _ _ => rfl) ?_ ?_ ?_
  · intro j _
    simp only [rowE, Md.make]
    cases hr : m.ret j with
    | none => rfl
    | some e => simp only [Option.map_some, upd_other _ _ (show ¬ e = m.cnt from fun q => by have := (hw.rlt j e hr).2; omega)]
  · intro e he
    simp only [Md.make, BM.newElem] at he ⊢
    by_cases q : e = m.cnt
    · subst q; rw [upd_same, upd_same, upd_same]; exact hx.keep (h.vkeep hk)
    · have he' : e < m.cnt := by omega
      rw [upd_other _ _ q, upd_other _ _ q, upd_other _ _ (fun s => hM (by rw [← s]; exact .inr (h.rel.isElem he')))]
      exact (h.vals e he').keep (h.vkeep hk)
  · intro k hk'
    simp only [BM.newElem, BM.node] at hk' ⊢
    rcases hk' with q | q | q
    · exact .inl (.inl q)
    · exact .inl (.inr q)
    · exact .inr (by omega)

theorem IR.setV {W : World} (h : IR W B p pl pe N m b bl be) {e : Nat} {v : Vl} {x : Value} (he : e < m.cnt) (hx : VRep W (canon v) x) :
    IR (W.setCell ⟨be e, 3, none⟩ x) B p pl pe N { m with val := upd m.val e (canon v) } (b.setVl (be e) x) bl be ∧ Touch B W (W.setCell ⟨be e, 3, none⟩ x) := by
  have hE := h.rel.isElem he
  have hk : Keeps b.node W (W.setCell ⟨be e, 3, none⟩ x) := (Keeps.refl _ _).setCell (p := ⟨be e, 3, none⟩) (fun _ => .inr hE) _
  refine ⟨h.change hk (h.rep.setVl hE x) (h.rel.set e (canon v) (be e) x) (fun _ _ => rfl) (fun _ _ => rfl) ?_ (fun _ q => .inl q), h.touch hk⟩
  intro f hf
  simp only [BM.setVl]
  by_cases q : f = e
  · subst q; rw [upd_same, upd_same]; exact hx.keep (h.vkeep hk)
  · rw [upd_other _ _ q, upd_other _ _ (fun s => q (h.rel.einj f e hf he s))]; exact (h.vals f hf).keep (h.vkeep hk)

/-- An element or none is given its number. -/
theorem number_O {W : World} (hwf : WF m) (hi : i < N) (hlate : ∀ j k, m.ret j = some k → j < i) (hN : N ≤ 4611686018427387904) (hM : Mid w B p pl pe N m b bl be c W) (o : Option Nat) (ho : ∀ e, o = some e → e < m.cnt) :
    Calls Try.prog 55 #[.pointer (some ⟨p, 0, none⟩), .int .i64 i, pt (o.map be)] W fun r w' => r = .returned (m.answer i o).2.agg ∧ Mid w B p pl pe N (m.answer i o).1 b bl be c w' := by
  cases o with
  | none =>
    refine (number_nil _).mono ?_
    rintro r w' ⟨rfl, hB⟩
    exact ⟨rfl, hM.step (hM.ir.below hB) (Touch.of_below hB)⟩
  | some e =>
    refine (number_c hM.ir hwf hi (ho e rfl) hlate hN).mono ?_
    rintro r w' ⟨rfl, hI, hK⟩
    exact ⟨rfl, hM.step hI (hM.ir.touch_pe hK)⟩

set_option maxHeartbeats 1000000 in
theorem look_0 (h : At w B p pl pe N m b bl be i) {o e k k' : Int} {v : Vl} (hf : m.isL i = false) :
    Calls Try.prog 39 #[.pointer (some ⟨p, 0, none⟩), .int .i64 i, Cl.agg ⟨0, o, e, k, k', v⟩] w
      (StepPost w B p pl pe N { m with isL := upd m.isL i true } An.no) := by
  have M0 := Mid.start h.ir ⟨0, o, e, k, k', v⟩
  have HH := Lib.hid h
  have hiN := h.hi
  have hNN := h.hN
  clear h
  unfold Cl.agg
  unfold callBlock ansBlock at M0
  simp only at M0 ⊢
  go_enter Try.func39, Try.ntmps39
  go_upto_region 1 with (fail)
  generalize ((w.alloc _).alloc _) = W at M0 ⊢
  obtain ⟨a0, a1, a2, a3, a4, a5, a6, a7⟩ := M0.args
  have p0 := M0.ir.p0
  simp only at a0 a1 a2 a3 a4 a5 a6 a7
  have HM := Lib.hid M0
  clear M0
  go_wp2_with fail
  have HF := Lib.hid hf
  have hlr := (HM.out.drewN 1).ir.lrow.cell HH.out.hi
  clear hf a0 a1 a2 a3 a4 a5 a6 a7
  go_region_with (go_at_call 71; refine (new_c (HM.out.drewN 1).ir.rep).mono ?_; rintro r w' ⟨rfl, hR, hK, hz⟩; obtain ⟨hI, hT, q0, q1, q2⟩ := IR.newL (HM.out.drewN 1).ir HH.out.wf HF.out HH.out.hi hR hK hz; have M3 : Hid (Mid w B p pl pe N { m with isL := upd m.isL i true } (b.newList W.heap.size) (upd bl i W.heap.size) be ⟨0, o, e, k, k', v⟩ (w'.setCell ⟨pl, i, none⟩ (.pointer (some ⟨W.heap.size, 0, none⟩)))) := (HM.out.drewN 1).step hI hT; clear hR hK hI hT hz)
  all_goals
    generalize (World.setCell _ _ _) = W2 at M3 ⊢
    have M3 := M3.out
    clear q0 q1 q2 p0 hlr
    obtain ⟨f5, c0, c1, c2, c3, c4⟩ := ans_cells M3.ans
    have FIN := Lib.hid (M3.fin An.no)
    clear M3
    go_wp2
    refine bodyPost_ret (v := An.agg An.no) ?_ rfl ⟨rfl, FIN.out⟩
    simp [results, Try.results39, go_sem, An.agg, An.no, Vl.zero, f5, c0, c1, c2, c3, c4]
    try rfl

set_option maxHeartbeats 1000000 in
theorem look_1 (h : At w B p pl pe N m b bl be i) {o e k k' : Int} {v : Vl} (hf : m.isL i = false) :
    Calls Try.prog 39 #[.pointer (some ⟨p, 0, none⟩), .int .i64 i, Cl.agg ⟨1, o, e, k, k', v⟩] w
      (StepPost w B p pl pe N { m with isL := upd m.isL i true } An.no) := by
  have M0 := Mid.start h.ir ⟨1, o, e, k, k', v⟩
  have HH := Lib.hid h
  have hiN := h.hi
  have hNN := h.hN
  clear h
  unfold Cl.agg
  unfold callBlock ansBlock at M0
  simp only at M0 ⊢
  go_enter Try.func39, Try.ntmps39
  go_upto_region 1 with (fail)
  generalize ((w.alloc _).alloc _) = W at M0 ⊢
  obtain ⟨a0, a1, a2, a3, a4, a5, a6, a7⟩ := M0.args
  have p0 := M0.ir.p0
  simp only at a0 a1 a2 a3 a4 a5 a6 a7
  obtain ⟨hI, hT, q0, q1, q2⟩ := IR.newL M0.ir HH.out.wf hf HH.out.hi M0.ir.rep.newListZero ((Keeps.refl _ _).alloc _) (by simp)
  have M3 := Lib.hid (M0.step hI hT)
  have HM := Lib.hid M0
  have hpl : ¬ W.heap.size = pl := by have := M0.ir.lrow.lt; omega
  clear M0 hI hT hf a1 a2 a3 a4 a5 a6 a7
  go_upto_region 22 with (fail)
  generalize (World.setCell _ _ _) = W2 at M3 ⊢
  have M3 := M3.out
  clear q0 q1 q2 a0 p0
  obtain ⟨f5, c0, c1, c2, c3, c4⟩ := ans_cells M3.ans
  have FIN := Lib.hid (M3.fin An.no)
  clear M3
  go_wp2
  refine bodyPost_ret (v := An.agg An.no) ?_ rfl ⟨rfl, FIN.out⟩
  simp [results, Try.results39, go_sem, An.agg, An.no, Vl.zero, f5, c0, c1, c2, c3, c4]
  try rfl

set_option maxHeartbeats 1000000 in
theorem look_2 (h : At w B p pl pe N m b bl be i) {o e k k' : Int} {v : Vl} (hv : v.ok) :
    Calls Try.prog 39 #[.pointer (some ⟨p, 0, none⟩), .int .i64 i, Cl.agg ⟨2, o, e, k, k', v⟩] w
      (StepPost w B p pl pe N ((m.make v none).answer i (some m.cnt)).1 ((m.make v none).answer i (some m.cnt)).2) := by
  have M0 := Mid.start h.ir ⟨2, o, e, k, k', v⟩
  have HH := Lib.hid h
  have hiN := h.hi
  have hNN := h.hN
  clear h
  unfold Cl.agg
  unfold callBlock ansBlock at M0
  simp only at M0 ⊢
  go_enter Try.func39, Try.ntmps39
  go_upto_region 1 with (fail)
  generalize ((w.alloc _).alloc _) = W at M0 ⊢
  obtain ⟨a0, a1, a2, a3, a4, a5, a6, a7⟩ := M0.args
  have p0 := M0.ir.p0
  simp only at a0 a1 a2 a3 a4 a5 a6 a7
  have HM := Lib.hid M0
  clear M0
  go_wp2_with fail
  refine (plain_M HM.out hv).mono ?_
  rintro r w' ⟨x, rfl, hx, hM⟩
  have HM1 := Lib.hid (hM.step (hM.ir.newE HH.out.wf hx) ((Touch.refl B w').alloc _))
  have hany := hx.any
  clear hx hM
  clear a0 a1 a2 a3 a4 a5 a6 a7 p0
  have K := Lib.hid (number_O (i := i) (HH.out.wf.make_none v) HH.out.hi HH.out.late HH.out.hN HM1.out (some m.cnt) (fun e q => by simp at q; subst q; exact Nat.lt_succ_self _))
  clear HM1
  simp only [Option.map_some, upd_same, pt_some] at K
  rcases hany with rfl | ⟨tv, xv, rfl⟩
  all_goals
    go_wp2_with fail
    refine K.out.mono ?_
    rintro r w' ⟨rfl, M3⟩
    generalize ha : (Md.answer _ _ _).2 = a
    have HA := Lib.hid ha
    clear ha
    unfold An.agg
    obtain ⟨f5, c0, c1, c2, c3, c4⟩ := ans_cells M3.ans
    have FIN := Lib.hid (M3.fin a)
    clear M3
    go_wp2
    refine bodyPost_ret (v := An.agg a) ?_ rfl ⟨by rw [HA.out], FIN.out⟩
    simp [results, Try.results39, go_sem, An.agg, f5, c0, c1, c2, c3, c4]
    try rfl

set_option maxHeartbeats 1000000 in
theorem look_15 (h : At w B p pl pe N m b bl be i) {l : Nat} {e k k' : Int} {v : Vl} (hl : m.isL l = true) (hlN : l < N) :
    Calls Try.prog 39 #[.pointer (some ⟨p, 0, none⟩), .int .i64 i, Cl.agg ⟨15, l, e, k, k', v⟩] w
      (StepPost w B p pl pe N (m.answer i (m.seq l).head?).1 (m.answer i (m.seq l).head?).2) := by
  have M0 := Mid.start h.ir ⟨15, l, e, k, k', v⟩
  have HH := Lib.hid h
  have hiN := h.hi
  have hNN := h.hN
  clear h
  unfold Cl.agg
  unfold callBlock ansBlock at M0
  simp only at M0 ⊢
  go_enter Try.func39, Try.ntmps39
  go_upto_region 1 with (fail)
  generalize ((w.alloc _).alloc _) = W at M0 ⊢
  obtain ⟨a0, a1, a2, a3, a4, a5, a6, a7⟩ := M0.args
  have p0 := M0.ir.p0
  simp only at a0 a1 a2 a3 a4 a5 a6 a7
  have HM := Lib.hid M0
  clear M0
  go_wp2_with fail
  have cl := HM.out.list hl hlN
  have K := Lib.hid (number_O (i := i) HH.out.wf HH.out.hi HH.out.late HH.out.hN (HM.out.drewN 1) (m.seq l).head? (fun e q => HH.out.wf.lt (l := l) (List.mem_of_head? q)))
  have hp : ∃ q, pt ((m.seq l).head?.map be) = .pointer q := ⟨_, rfl⟩
  obtain ⟨q, hq⟩ := hp
  have HQ := Lib.hid hq; clear hq
  clear a0 a2 a3 a4 a5 a6 a7
  go_region_with (first | (go_at_call 72; refine (front_I (HM.out.drewN 1).ir hl).mono ?_; rintro r w' ⟨rfl, rfl⟩) | (go_at_call 55; refine K.out.mono ?_; rintro r w' ⟨rfl, M3⟩; generalize ha : (Md.answer _ _ _).2 = a; have HA := Lib.hid ha; clear ha; unfold An.agg; obtain ⟨f5, c0, c1, c2, c3, c4⟩ := ans_cells M3.ans; have FIN := Lib.hid (M3.fin a); clear M3))
  all_goals
    go_wp2
    refine bodyPost_ret (v := An.agg a) ?_ rfl ⟨by rw [HA.out], FIN.out⟩
    simp [results, Try.results39, go_sem, An.agg, f5, c0, c1, c2, c3, c4]
    try rfl

set_option maxHeartbeats 1000000 in
theorem look_16 (h : At w B p pl pe N m b bl be i) {l : Nat} {e k k' : Int} {v : Vl} (hl : m.isL l = true) (hlN : l < N) :
    Calls Try.prog 39 #[.pointer (some ⟨p, 0, none⟩), .int .i64 i, Cl.agg ⟨16, l, e, k, k', v⟩] w
      (StepPost w B p pl pe N (m.answer i (m.seq l).getLast?).1 (m.answer i (m.seq l).getLast?).2) := by
  have M0 := Mid.start h.ir ⟨16, l, e, k, k', v⟩
  have HH := Lib.hid h
  have hiN := h.hi
  have hNN := h.hN
  clear h
  unfold Cl.agg
  unfold callBlock ansBlock at M0
  simp only at M0 ⊢
  go_enter Try.func39, Try.ntmps39
  go_upto_region 1 with (fail)
  generalize ((w.alloc _).alloc _) = W at M0 ⊢
  obtain ⟨a0, a1, a2, a3, a4, a5, a6, a7⟩ := M0.args
  have p0 := M0.ir.p0
  simp only at a0 a1 a2 a3 a4 a5 a6 a7
  have HM := Lib.hid M0
  clear M0
  go_wp2_with fail
  have cl := HM.out.list hl hlN
  have K := Lib.hid (number_O (i := i) HH.out.wf HH.out.hi HH.out.late HH.out.hN (HM.out.drewN 1) (m.seq l).getLast? (fun e q => HH.out.wf.lt (l := l) (List.mem_of_getLast? q)))
  have hp : ∃ q, pt ((m.seq l).getLast?.map be) = .pointer q := ⟨_, rfl⟩
  obtain ⟨q, hq⟩ := hp
  have HQ := Lib.hid hq; clear hq
  clear a0 a2 a3 a4 a5 a6 a7
  go_region_with (first | (go_at_call 73; refine (back_I (HM.out.drewN 1).ir hl).mono ?_; rintro r w' ⟨rfl, rfl⟩) | (go_at_call 55; refine K.out.mono ?_; rintro r w' ⟨rfl, M3⟩; generalize ha : (Md.answer _ _ _).2 = a; have HA := Lib.hid ha; clear ha; unfold An.agg; obtain ⟨f5, c0, c1, c2, c3, c4⟩ := ans_cells M3.ans; have FIN := Lib.hid (M3.fin a); clear M3))
  all_goals
    go_wp2
    refine bodyPost_ret (v := An.agg a) ?_ rfl ⟨by rw [HA.out], FIN.out⟩
    simp [results, Try.results39, go_sem, An.agg, f5, c0, c1, c2, c3, c4]
    try rfl

set_option maxHeartbeats 1000000 in
theorem look_17 (h : At w B p pl pe N m b bl be i) {l : Nat} {e k k' : Int} {v : Vl} (hl : m.isL l = true) (hlN : l < N) :
    Calls Try.prog 39 #[.pointer (some ⟨p, 0, none⟩), .int .i64 i, Cl.agg ⟨17, l, e, k, k', v⟩] w
      (StepPost w B p pl pe N m ⟨-1, (m.seq l).length, Vl.zero⟩) := by
  have M0 := Mid.start h.ir ⟨17, l, e, k, k', v⟩
  have HH := Lib.hid h
  have hiN := h.hi
  have hNN := h.hN
  clear h
  unfold Cl.agg
  unfold callBlock ansBlock at M0
  simp only at M0 ⊢
  go_enter Try.func39, Try.ntmps39
  go_upto_region 1 with (fail)
  generalize ((w.alloc _).alloc _) = W at M0 ⊢
  obtain ⟨a0, a1, a2, a3, a4, a5, a6, a7⟩ := M0.args
  have p0 := M0.ir.p0
  simp only at a0 a1 a2 a3 a4 a5 a6 a7
  have HM := Lib.hid M0
  clear M0
  go_wp2_with fail
  have cl := HM.out.list hl hlN
  obtain ⟨f5, c0, c1, c2, c3, c4⟩ := ans_cells HM.out.ans
  have FIN := Lib.hid ((HM.out.drewN 1).fin ⟨-1, (m.seq l).length, Vl.zero⟩)
  clear a0 a2 a3 a4 a5 a6 a7
  go_region_with (go_at_call 74; refine (len_I (HM.out.drewN 1).ir hl).mono ?_; rintro r w' ⟨rfl, rfl⟩)
  all_goals
    go_wp2
    refine bodyPost_ret (v := An.agg ⟨-1, (m.seq l).length, Vl.zero⟩) ?_ rfl ⟨rfl, FIN.out⟩
    simp [results, Try.results39, go_sem, An.agg, Vl.zero, f5, c0, c1, c2, c3, c4]
    try rfl

set_option maxHeartbeats 1000000 in
theorem look_18 (h : At w B p pl pe N m b bl be i) {n x : Nat} {o e k : Int} {v : Vl} (hn : n < N) (hr : m.ret n = some x) (hxc : x < m.cnt) (hst : m.clr x = none) :
    Calls Try.prog 39 #[.pointer (some ⟨p, 0, none⟩), .int .i64 i, Cl.agg ⟨18, o, e, n, k, v⟩] w
      (StepPost w B p pl pe N (m.answer i (m.next x)).1 (m.answer i (m.next x)).2) := by
  have M0 := Mid.start h.ir ⟨18, o, e, n, k, v⟩
  have HH := Lib.hid h
  have hiN := h.hi
  have hNN := h.hN
  clear h
  unfold Cl.agg
  unfold callBlock ansBlock at M0
  simp only at M0 ⊢
  go_enter Try.func39, Try.ntmps39
  go_upto_region 1 with (fail)
  generalize ((w.alloc _).alloc _) = W at M0 ⊢
  obtain ⟨a0, a1, a2, a3, a4, a5, a6, a7⟩ := M0.args
  have p0 := M0.ir.p0
  simp only at a0 a1 a2 a3 a4 a5 a6 a7
  have HM := Lib.hid M0
  clear M0
  go_wp2_with fail
  refine (elem_c HM.out.ir hn hr).mono ?_
  rintro r w' ⟨rfl, rfl⟩
  have K := Lib.hid (number_O (i := i) HH.out.wf HH.out.hi HH.out.late HH.out.hN HM.out (m.next x) (fun e q => next_lt HH.out.wf q))
  clear a0 a1 a2 a3 a4 a5 a6 a7 p0
  clear hr
  go_wp2_with fail
  refine (next_I HM.out.ir HH.out.wf hxc hst).mono ?_
  rintro r w' ⟨rfl, rfl⟩
  clear hst
  go_wp2_with fail
  refine K.out.mono ?_
  rintro r w' ⟨rfl, M3⟩
  generalize ha : (Md.answer _ _ _).2 = a
  have HA := Lib.hid ha
  clear ha
  unfold An.agg
  obtain ⟨f5, c0, c1, c2, c3, c4⟩ := ans_cells M3.ans
  have FIN := Lib.hid (M3.fin a)
  clear M3
  go_wp2
  refine bodyPost_ret (v := An.agg a) ?_ rfl ⟨by rw [HA.out], FIN.out⟩
  simp [results, Try.results39, go_sem, An.agg, f5, c0, c1, c2, c3, c4]
  try rfl

set_option maxHeartbeats 1000000 in
theorem look_19 (h : At w B p pl pe N m b bl be i) {n x : Nat} {o e k : Int} {v : Vl} (hn : n < N) (hr : m.ret n = some x) (hxc : x < m.cnt) (hst : m.clr x = none) :
    Calls Try.prog 39 #[.pointer (some ⟨p, 0, none⟩), .int .i64 i, Cl.agg ⟨19, o, e, n, k, v⟩] w
      (StepPost w B p pl pe N (m.answer i (m.prev x)).1 (m.answer i (m.prev x)).2) := by
  have M0 := Mid.start h.ir ⟨19, o, e, n, k, v⟩
  have HH := Lib.hid h
  have hiN := h.hi
  have hNN := h.hN
  clear h
  unfold Cl.agg
  unfold callBlock ansBlock at M0
  simp only at M0 ⊢
  go_enter Try.func39, Try.ntmps39
  go_upto_region 1 with (fail)
  generalize ((w.alloc _).alloc _) = W at M0 ⊢
  obtain ⟨a0, a1, a2, a3, a4, a5, a6, a7⟩ := M0.args
  have p0 := M0.ir.p0
  simp only at a0 a1 a2 a3 a4 a5 a6 a7
  have HM := Lib.hid M0
  clear M0
  go_wp2_with fail
  refine (elem_c HM.out.ir hn hr).mono ?_
  rintro r w' ⟨rfl, rfl⟩
  have K := Lib.hid (number_O (i := i) HH.out.wf HH.out.hi HH.out.late HH.out.hN HM.out (m.prev x) (fun e q => prev_lt HH.out.wf q))
  clear a0 a1 a2 a3 a4 a5 a6 a7 p0
  clear hr
  go_wp2_with fail
  refine (prev_I HM.out.ir HH.out.wf hxc hst).mono ?_
  rintro r w' ⟨rfl, rfl⟩
  clear hst
  go_wp2_with fail
  refine K.out.mono ?_
  rintro r w' ⟨rfl, M3⟩
  generalize ha : (Md.answer _ _ _).2 = a
  have HA := Lib.hid ha
  clear ha
  unfold An.agg
  obtain ⟨f5, c0, c1, c2, c3, c4⟩ := ans_cells M3.ans
  have FIN := Lib.hid (M3.fin a)
  clear M3
  go_wp2
  refine bodyPost_ret (v := An.agg a) ?_ rfl ⟨by rw [HA.out], FIN.out⟩
  simp [results, Try.results39, go_sem, An.agg, f5, c0, c1, c2, c3, c4]
  try rfl

set_option maxHeartbeats 1000000 in
theorem look_20 (h : At w B p pl pe N m b bl be i) {n x : Nat} {o e k : Int} {v : Vl} (hn : n < N) (hr : m.ret n = some x) (hxc : x < m.cnt) :
    Calls Try.prog 39 #[.pointer (some ⟨p, 0, none⟩), .int .i64 i, Cl.agg ⟨20, o, e, n, k, v⟩] w
      (StepPost w B p pl pe N m ⟨-1, 0, m.val x⟩) := by
  have M0 := Mid.start h.ir ⟨20, o, e, n, k, v⟩
  have HH := Lib.hid h
  have hiN := h.hi
  have hNN := h.hN
  clear h
  unfold Cl.agg
  unfold callBlock ansBlock at M0
  simp only at M0 ⊢
  go_enter Try.func39, Try.ntmps39
  go_upto_region 1 with (fail)
  generalize ((w.alloc _).alloc _) = W at M0 ⊢
  obtain ⟨a0, a1, a2, a3, a4, a5, a6, a7⟩ := M0.args
  have p0 := M0.ir.p0
  simp only at a0 a1 a2 a3 a4 a5 a6 a7
  have HM := Lib.hid M0
  clear M0
  go_wp2_with fail
  refine (elem_c HM.out.ir hn hr).mono ?_
  rintro r w' ⟨rfl, rfl⟩
  have hv := HM.out.ir.vals x hxc
  have cv := HM.out.ir.rep.vlc (HM.out.ir.rel.isElem hxc)
  have K := Lib.hid (told_c hv)
  clear hv hr a0 a1 a2 a3 a4 a5 a6 a7 p0
  go_wp2_with fail
  refine K.out.mono ?_
  rintro r w' ⟨rfl, hB⟩
  have M3 := HM.out.step (HM.out.ir.below hB) (Touch.of_below hB)
  clear hB cv K
  generalize hvx : m.val x = vx
  have HVX := Lib.hid hvx
  clear hvx
  unfold Vl.agg
  obtain ⟨f5, c0, c1, c2, c3, c4⟩ := ans_cells M3.ans
  have FIN := Lib.hid (M3.fin ⟨-1, 0, vx⟩)
  clear M3
  go_wp2
  refine bodyPost_ret (v := An.agg ⟨-1, 0, vx⟩) ?_ rfl ⟨by rw [HVX.out], FIN.out⟩
  simp [results, Try.results39, go_sem, An.agg, f5, c0, c1, c2, c3, c4]
  try rfl

set_option maxHeartbeats 1000000 in
theorem look_21 (h : At w B p pl pe N m b bl be i) {n x : Nat} {o e k : Int} {v : Vl} (hv : v.ok) (hn : n < N) (hr : m.ret n = some x) (hxc : x < m.cnt) :
    Calls Try.prog 39 #[.pointer (some ⟨p, 0, none⟩), .int .i64 i, Cl.agg ⟨21, o, e, n, k, v⟩] w
      (StepPost w B p pl pe N { m with val := upd m.val x (canon v) } An.no) := by
  have M0 := Mid.start h.ir ⟨21, o, e, n, k, v⟩
  have HH := Lib.hid h
  have hiN := h.hi
  have hNN := h.hN
  clear h
  unfold Cl.agg
  unfold callBlock ansBlock at M0
  simp only at M0 ⊢
  go_enter Try.func39, Try.ntmps39
  go_upto_region 1 with (fail)
  generalize ((w.alloc _).alloc _) = W at M0 ⊢
  obtain ⟨a0, a1, a2, a3, a4, a5, a6, a7⟩ := M0.args
  have p0 := M0.ir.p0
  simp only at a0 a1 a2 a3 a4 a5 a6 a7
  have HM := Lib.hid M0
  clear M0
  go_wp2_with fail
  have HR := Lib.hid hr
  clear hr a0 a1 a2 a4
  go_region_with (first | (go_at_call 60; refine (elem_c (HM.out.drewN 1).ir hn HR.out).mono ?_; rintro r w' ⟨rfl, rfl⟩) | (go_at_call 57; refine (plain_M (HM.out.drewN 1) hv).mono ?_; rintro r w' ⟨y, rfl, hx, hM⟩; obtain ⟨hI, hT⟩ := hM.ir.setV hxc hx; have M3 := Lib.hid (hM.step hI hT); have cv := hM.ir.rep.vlc (hM.ir.rel.isElem hxc); have fv := hM.ir.rep.free (.inr (hM.ir.rel.isElem hxc)); have n0 := run_store_any hx.any cv (fv 3); have n1 := hx.any.notAgg; have n2 := hx.any.notTuple; have n3 := hx.any.one; clear hx hM hI hT))
  all_goals
    generalize (World.setCell _ _ _) = W2 at M3 ⊢
    have M3 := M3.out
    clear cv fv a3 a5 a6 a7 p0
    obtain ⟨f5, c0, c1, c2, c3, c4⟩ := ans_cells M3.ans
    have FIN := Lib.hid (M3.fin An.no)
    clear M3
    go_wp2
    refine bodyPost_ret (v := An.agg An.no) ?_ rfl ⟨rfl, FIN.out⟩
    simp [results, Try.results39, go_sem, An.agg, An.no, Vl.zero, f5, c0, c1, c2, c3, c4]
    try rfl

end
end Bead
end Go.Proofs.Ytidnmanljdadaaa
