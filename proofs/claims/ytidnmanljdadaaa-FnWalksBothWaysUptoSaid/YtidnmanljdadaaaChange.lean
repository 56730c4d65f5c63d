/- The contract of (*player).change, a kind of call at a time: for every player in memory. -/
import Derived.Test.YtidnmanljdadaaaLift
set_option linter.all false
namespace Go.Proofs.Ytidnmanljdadaaa
open Go.RowKit
namespace Bead
set_option maxRecDepth 100000

structure At (w : World) (B p pl pe N : Nat) (m : Md) (b : BM) (bl be : Nat → Nat) (i : Nat) : Prop where
  ir : IR w B p pl pe N m b bl be
  wf : WF m
  hi : i < N
  late : ∀ j k, m.ret j = some k → j < i
  hN : N ≤ 4611686018427387904
  hc : m.cnt < 2305843009213693952

def StepPost (w : World) (B p pl pe N : Nat) (m' : Md) (a : An) (r : Ending) (w' : World) : Prop := r = .returned a.agg ∧ (∃ b bl be, IR w' B p pl pe N m' b bl be) ∧ Touch B w w'

/-- The block of the argument c. -/
def callBlock (c : Cl) : Obj := .cells #[.int .i64 c.op, .int .i64 c.list, .int .i64 c.other, .int .i64 c.elem, .int .i64 c.mark, .int .i64 c.v.kind, .int .i64 c.v.n, .string c.v.s] 32

/-- What is known in the middle of the function: the player, the argument's block and the result's. -/
structure Mid (w : World) (B p pl pe N : Nat) (m : Md) (b : BM) (bl be : Nat → Nat) (c : Cl) (W : World) : Prop where
  ir : IR W B p pl pe N m b bl be
  touch : Touch B w W
  arg : W.heap[w.heap.size]? = some (callBlock c)
  ans : W.heap[w.heap.size + 1]? = some ansBlock

section
variable {w : World} {B p pl pe N : Nat} {m : Md} {b : BM} {bl be : Nat → Nat} {i : Nat} {c : Cl}

theorem Mid.start (h : IR w B p pl pe N m b bl be) (c : Cl) : Mid w B p pl pe N m b bl be c ((w.alloc (callBlock c)).alloc ansBlock) := by
  refine ⟨(h.alloc _).alloc _, ((Touch.refl B w).alloc _).alloc _, heap_alloc_keep (heap_alloc_new w _), ?_⟩
  have := heap_alloc_new (w.alloc (callBlock c)) ansBlock
  simpa using this
theorem Mid.drewN {W : World} (h : Mid w B p pl pe N m b bl be c W) (n : Nat) : Mid w B p pl pe N m b bl be c (W.drewN n) := by
  have k : Keeps (Own B w) w W := h.touch
  exact ⟨h.ir.drewN n, ⟨k.os, k.tape, k.output, k.size, k.block⟩, h.arg, h.ans⟩
/-- From one world to a later one. -/
theorem Mid.step {W W' : World} {m' : Md} {b' : BM} {bl' be' : Nat → Nat} (h : Mid w B p pl pe N m b bl be c W) (hi : IR W' B p pl pe N m' b' bl' be') (ht : Touch B W W') : Mid w B p pl pe N m' b' bl' be' c W' :=
  ⟨hi, h.touch.trans ht, ht.block h.arg (by decide) (by decide) (by decide) (by decide), ht.block h.ans (by decide) (by decide) (by decide) (by decide)⟩
theorem Mid.fin {W : World} (h : Mid w B p pl pe N m b bl be c W) (a : An) : (∃ b bl be, IR (put5 W (w.heap.size + 1) a) B p pl pe N m b bl be) ∧ Touch B w (put5 W (w.heap.size + 1) a) :=
  ⟨⟨_, _, _, h.ir.put5 h.ans a⟩, h.touch.put5 (by omega) a⟩
theorem Mid.alloc {W : World} (h : Mid w B p pl pe N m b bl be c W) (o : Obj) : Mid w B p pl pe N m b bl be c (W.alloc o) := h.step (h.ir.alloc o) ((Touch.refl B W).alloc o)
/-- The cells of the argument's block. -/
theorem Mid.args {W : World} (h : Mid w B p pl pe N m b bl be c W) : W.cell? ⟨w.heap.size, 0, none⟩ = some (.int .i64 c.op) ∧ W.cell? ⟨w.heap.size, 1, none⟩ = some (.int .i64 c.list) ∧ W.cell? ⟨w.heap.size, 2, none⟩ = some (.int .i64 c.other) ∧
    W.cell? ⟨w.heap.size, 3, none⟩ = some (.int .i64 c.elem) ∧ W.cell? ⟨w.heap.size, 4, none⟩ = some (.int .i64 c.mark) ∧ W.cell? ⟨w.heap.size, 5, none⟩ = some (.int .i64 c.v.kind) ∧ W.cell? ⟨w.heap.size, 6, none⟩ = some (.int .i64 c.v.n) ∧
    W.cell? ⟨w.heap.size, 7, none⟩ = some (.string c.v.s) :=
  ⟨cell_of_heap h.arg rfl, cell_of_heap h.arg rfl, cell_of_heap h.arg rfl, cell_of_heap h.arg rfl, cell_of_heap h.arg rfl, cell_of_heap h.arg rfl, cell_of_heap h.arg rfl, cell_of_heap h.arg rfl⟩
theorem Mid.list {W : World} (h : Mid w B p pl pe N m b bl be c W) {l : Nat} (hl : m.isL l = true) (hlN : l < N) : W.cell? ⟨pl, l, none⟩ = some (.pointer (some ⟨bl l, 0, none⟩)) := by
  have := h.ir.lrow.cell hlN
  simpa [rowL, hl, pt_some] using this

set_option maxHeartbeats 1000000 in
theorem change_3 (h : At w B p pl pe N m b bl be i) {l : Nat} {o e k : Int} {v : Vl} (hv : v.ok) (hl : m.isL l = true) (hlN : l < N) :
    Calls Try.prog 38 #[.pointer (some ⟨p, 0, none⟩), .int .i64 i, Cl.agg ⟨3, l, o, e, k, v⟩] w
      (StepPost w B p pl pe N (((m.make v (some l)).put l 0 m.cnt).give i m.cnt) (((m.make v (some l)).put l 0 m.cnt).num i m.cnt)) := by
  have M0 := Mid.start h.ir ⟨3, l, o, e, k, v⟩
  have HH := Lib.hid h
  clear h
  unfold Cl.agg
  unfold callBlock ansBlock at M0
  simp only at M0 ⊢
  go_enter Try.func38, Try.ntmps38
  go_wp2
  generalize ((w.alloc _).alloc _) = W at M0 ⊢
  obtain ⟨a0, a1, a2, a3, a4, a5, a6, a7⟩ := M0.args
  have p0 := M0.ir.p0
  have cl := M0.list hl hlN
  simp only at a0 a1 a2 a3 a4 a5 a6 a7
  have HM := Lib.hid M0
  clear M0
  go_quiet (fail)
  have HM := Lib.hid (HM.out.drewN nq)
  go_wp2_with fail
  refine (plain_c v hv _).mono ?_
  rintro r w' ⟨⟨x, rfl, hx⟩, rfl⟩
  have HM := HM.out.alloc (valBlock v)
  generalize ((W.drewN nq).alloc (valBlock v)) = W at hx HM ⊢
  clear a0 a1 a2 a3 a4 a5 a6 a7 p0 cl
  have HX := Lib.hid hx; clear hx
  have HM' := Lib.hid HM; clear HM
  go_wp2_with fail
  refine (pushFront_I HM'.out.ir HH.out.wf hl (by have := HH.out.hc; omega) HX.out).mono ?_
  rintro r w' ⟨b', be', rfl, hI, hT⟩
  have HM2 := Lib.hid (HM'.out.step hI hT)
  clear hI hT
  go_wp2_with fail
  refine (number_c HM2.out.ir (put_mid HH.out.wf v hl _) HH.out.hi (Nat.lt_succ_self _) HH.out.late HH.out.hN).mono ?_
  rintro r w' ⟨rfl, hI, hK⟩
  have M3 := HM2.out.step hI (HM2.out.ir.touch_pe hK)
  obtain ⟨f5, c0, c1, c2, c3, c4⟩ := ans_cells M3.ans
  generalize ha : Md.num _ _ _ = a
  have HA := Lib.hid ha
  have FIN := Lib.hid (M3.fin a)
  clear M3 hI hK ha
  unfold An.agg
  go_wp2
  refine bodyPost_ret (v := An.agg a) ?_ rfl ⟨by rw [HA.out], FIN.out⟩
  simp [results, Try.results38, go_sem, An.agg, f5, c0, c1, c2, c3, c4]

set_option maxHeartbeats 1000000 in
theorem change_4 (h : At w B p pl pe N m b bl be i) {l : Nat} {o e k : Int} {v : Vl} (hv : v.ok) (hl : m.isL l = true) (hlN : l < N) :
    Calls Try.prog 38 #[.pointer (some ⟨p, 0, none⟩), .int .i64 i, Cl.agg ⟨4, l, o, e, k, v⟩] w
      (StepPost w B p pl pe N (((m.make v (some l)).put l (m.seq l).length m.cnt).give i m.cnt) (((m.make v (some l)).put l (m.seq l).length m.cnt).num i m.cnt)) := by
  have M0 := Mid.start h.ir ⟨4, l, o, e, k, v⟩
  have HH := Lib.hid h
  clear h
  unfold Cl.agg
  unfold callBlock ansBlock at M0
  simp only at M0 ⊢
  go_enter Try.func38, Try.ntmps38
  go_wp2
  generalize ((w.alloc _).alloc _) = W at M0 ⊢
  obtain ⟨a0, a1, a2, a3, a4, a5, a6, a7⟩ := M0.args
  have p0 := M0.ir.p0
  have cl := M0.list hl hlN
  simp only at a0 a1 a2 a3 a4 a5 a6 a7
  have HM := Lib.hid M0
  clear M0
  go_quiet (fail)
  have HM := Lib.hid (HM.out.drewN nq)
  go_wp2_with fail
  refine (plain_c v hv _).mono ?_
  rintro r w' ⟨⟨x, rfl, hx⟩, rfl⟩
  have HM := HM.out.alloc (valBlock v)
  generalize ((W.drewN nq).alloc (valBlock v)) = W at hx HM ⊢
  clear a0 a1 a2 a3 a4 a5 a6 a7 p0 cl
  have HX := Lib.hid hx; clear hx
  have HM' := Lib.hid HM; clear HM
  go_wp2_with fail
  refine (pushBack_I HM'.out.ir HH.out.wf hl (by have := HH.out.hc; omega) HX.out).mono ?_
  rintro r w' ⟨b', be', rfl, hI, hT⟩
  have HM2 := Lib.hid (HM'.out.step hI hT)
  clear hI hT
  go_wp2_with fail
  refine (number_c HM2.out.ir (put_mid HH.out.wf v hl _) HH.out.hi (Nat.lt_succ_self _) HH.out.late HH.out.hN).mono ?_
  rintro r w' ⟨rfl, hI, hK⟩
  have M3 := HM2.out.step hI (HM2.out.ir.touch_pe hK)
  obtain ⟨f5, c0, c1, c2, c3, c4⟩ := ans_cells M3.ans
  generalize ha : Md.num _ _ _ = a
  have HA := Lib.hid ha
  have FIN := Lib.hid (M3.fin a)
  clear M3 hI hK ha
  unfold An.agg
  go_wp2
  refine bodyPost_ret (v := An.agg a) ?_ rfl ⟨by rw [HA.out], FIN.out⟩
  simp [results, Try.results38, go_sem, An.agg, f5, c0, c1, c2, c3, c4]

set_option maxHeartbeats 1000000 in
theorem change_7 (h : At w B p pl pe N m b bl be i) {l : Nat} {n x : Nat} {o k : Int} {v : Vl} (hn : n < N) (hr : m.ret n = some x) (hx : x ∈ m.seq l) (hl : m.isL l = true) (hlN : l < N) :
    Calls Try.prog 38 #[.pointer (some ⟨p, 0, none⟩), .int .i64 i, Cl.agg ⟨7, l, o, n, k, v⟩] w
      (StepPost w B p pl pe N ((m.take l x).put l 0 x) An.no) := by
  have M0 := Mid.start h.ir ⟨7, l, o, n, k, v⟩
  have HH := Lib.hid h
  clear h
  unfold Cl.agg
  unfold callBlock ansBlock at M0
  simp only at M0 ⊢
  go_enter Try.func38, Try.ntmps38
  go_wp2
  generalize ((w.alloc _).alloc _) = W at M0 ⊢
  obtain ⟨a0, a1, a2, a3, a4, a5, a6, a7⟩ := M0.args
  have p0 := M0.ir.p0
  have cl := M0.list hl hlN
  simp only at a0 a1 a2 a3 a4 a5 a6 a7
  have HM := Lib.hid M0
  clear M0
  go_quiet (fail)
  have HM := Lib.hid (HM.out.drewN nq)
  go_wp2_with fail
  refine (elem_c HM.out.ir hn hr).mono ?_
  rintro r w' ⟨rfl, rfl⟩
  clear a0 a1 a2 a3 a4 a5 a6 a7 p0 cl
  go_wp2_with fail
  refine (move7_I HM.out.ir HH.out.wf hl hx).mono ?_
  rintro r w' ⟨rfl, ⟨b', hI⟩, hT⟩
  have M3 := HM.out.step hI hT
  clear hI hT
  obtain ⟨f5, c0, c1, c2, c3, c4⟩ := ans_cells M3.ans
  have FIN := Lib.hid (M3.fin An.no)
  clear M3
  go_wp2
  refine bodyPost_ret (v := An.agg An.no) ?_ rfl ⟨rfl, FIN.out⟩
  simp [results, Try.results38, go_sem, An.agg, An.no, Vl.zero, f5, c0, c1, c2, c3, c4]
  try rfl

set_option maxHeartbeats 1000000 in
theorem change_7n (h : At w B p pl pe N m b bl be i) {l : Nat} {n x : Nat} {o k : Int} {v : Vl} (hn : n < N) (hr : m.ret n = some x) (hx : x ∉ m.seq l) (hxc : x < m.cnt) (hst : m.clr x ≠ some l) (hl : m.isL l = true) (hlN : l < N) :
    Calls Try.prog 38 #[.pointer (some ⟨p, 0, none⟩), .int .i64 i, Cl.agg ⟨7, l, o, n, k, v⟩] w
      (StepPost w B p pl pe N m An.no) := by
  have M0 := Mid.start h.ir ⟨7, l, o, n, k, v⟩
  have HH := Lib.hid h
  clear h
  unfold Cl.agg
  unfold callBlock ansBlock at M0
  simp only at M0 ⊢
  go_enter Try.func38, Try.ntmps38
  go_wp2
  generalize ((w.alloc _).alloc _) = W at M0 ⊢
  obtain ⟨a0, a1, a2, a3, a4, a5, a6, a7⟩ := M0.args
  have p0 := M0.ir.p0
  have cl := M0.list hl hlN
  simp only at a0 a1 a2 a3 a4 a5 a6 a7
  have HM := Lib.hid M0
  clear M0
  go_quiet (fail)
  have HM := Lib.hid (HM.out.drewN nq)
  go_wp2_with fail
  refine (elem_c HM.out.ir hn hr).mono ?_
  rintro r w' ⟨rfl, rfl⟩
  clear a0 a1 a2 a3 a4 a5 a6 a7 p0 cl
  go_wp2_with fail
  refine (move7_N HM.out.ir HH.out.wf hl hxc hst hx).mono ?_
  rintro r w' ⟨rfl, rfl⟩
  have M3 := HM.out
  obtain ⟨f5, c0, c1, c2, c3, c4⟩ := ans_cells M3.ans
  have FIN := Lib.hid (M3.fin An.no)
  clear M3
  go_wp2
  refine bodyPost_ret (v := An.agg An.no) ?_ rfl ⟨rfl, FIN.out⟩
  simp [results, Try.results38, go_sem, An.agg, An.no, Vl.zero, f5, c0, c1, c2, c3, c4]
  try rfl

set_option maxHeartbeats 1000000 in
theorem change_8 (h : At w B p pl pe N m b bl be i) {l : Nat} {n x : Nat} {o k : Int} {v : Vl} (hn : n < N) (hr : m.ret n = some x) (hx : x ∈ m.seq l) (hl : m.isL l = true) (hlN : l < N) :
    Calls Try.prog 38 #[.pointer (some ⟨p, 0, none⟩), .int .i64 i, Cl.agg ⟨8, l, o, n, k, v⟩] w
      (StepPost w B p pl pe N ((m.take l x).put l ((m.take l x).seq l).length x) An.no) := by
  have M0 := Mid.start h.ir ⟨8, l, o, n, k, v⟩
  have HH := Lib.hid h
  clear h
  unfold Cl.agg
  unfold callBlock ansBlock at M0
  simp only at M0 ⊢
  go_enter Try.func38, Try.ntmps38
  go_wp2
  generalize ((w.alloc _).alloc _) = W at M0 ⊢
  obtain ⟨a0, a1, a2, a3, a4, a5, a6, a7⟩ := M0.args
  have p0 := M0.ir.p0
  have cl := M0.list hl hlN
  simp only at a0 a1 a2 a3 a4 a5 a6 a7
  have HM := Lib.hid M0
  clear M0
  go_quiet (fail)
  have HM := Lib.hid (HM.out.drewN nq)
  go_wp2_with fail
  refine (elem_c HM.out.ir hn hr).mono ?_
  rintro r w' ⟨rfl, rfl⟩
  clear a0 a1 a2 a3 a4 a5 a6 a7 p0 cl
  go_wp2_with fail
  refine (move8_I HM.out.ir HH.out.wf hl hx).mono ?_
  rintro r w' ⟨rfl, ⟨b', hI⟩, hT⟩
  have M3 := HM.out.step hI hT
  clear hI hT
  obtain ⟨f5, c0, c1, c2, c3, c4⟩ := ans_cells M3.ans
  have FIN := Lib.hid (M3.fin An.no)
  clear M3
  go_wp2
  refine bodyPost_ret (v := An.agg An.no) ?_ rfl ⟨rfl, FIN.out⟩
  simp [results, Try.results38, go_sem, An.agg, An.no, Vl.zero, f5, c0, c1, c2, c3, c4]
  try rfl

set_option maxHeartbeats 1000000 in
theorem change_8n (h : At w B p pl pe N m b bl be i) {l : Nat} {n x : Nat} {o k : Int} {v : Vl} (hn : n < N) (hr : m.ret n = some x) (hx : x ∉ m.seq l) (hxc : x < m.cnt) (hst : m.clr x ≠ some l) (hl : m.isL l = true) (hlN : l < N) :
    Calls Try.prog 38 #[.pointer (some ⟨p, 0, none⟩), .int .i64 i, Cl.agg ⟨8, l, o, n, k, v⟩] w
      (StepPost w B p pl pe N m An.no) := by
  have M0 := Mid.start h.ir ⟨8, l, o, n, k, v⟩
  have HH := Lib.hid h
  clear h
  unfold Cl.agg
  unfold callBlock ansBlock at M0
  simp only at M0 ⊢
  go_enter Try.func38, Try.ntmps38
  go_wp2
  generalize ((w.alloc _).alloc _) = W at M0 ⊢
  obtain ⟨a0, a1, a2, a3, a4, a5, a6, a7⟩ := M0.args
  have p0 := M0.ir.p0
  have cl := M0.list hl hlN
  simp only at a0 a1 a2 a3 a4 a5 a6 a7
  have HM := Lib.hid M0
  clear M0
  go_quiet (fail)
  have HM := Lib.hid (HM.out.drewN nq)
  go_wp2_with fail
  refine (elem_c HM.out.ir hn hr).mono ?_
  rintro r w' ⟨rfl, rfl⟩
  clear a0 a1 a2 a3 a4 a5 a6 a7 p0 cl
  go_wp2_with fail
  refine (move8_N HM.out.ir HH.out.wf hl hxc hst hx).mono ?_
  rintro r w' ⟨rfl, rfl⟩
  have M3 := HM.out
  obtain ⟨f5, c0, c1, c2, c3, c4⟩ := ans_cells M3.ans
  have FIN := Lib.hid (M3.fin An.no)
  clear M3
  go_wp2
  refine bodyPost_ret (v := An.agg An.no) ?_ rfl ⟨rfl, FIN.out⟩
  simp [results, Try.results38, go_sem, An.agg, An.no, Vl.zero, f5, c0, c1, c2, c3, c4]
  try rfl

set_option maxHeartbeats 1000000 in
theorem change_11 (h : At w B p pl pe N m b bl be i) {l : Nat} {n x : Nat} {o k : Int} {v : Vl} (hn : n < N) (hr : m.ret n = some x) (hx : x ∈ m.seq l) (hl : m.isL l = true) (hlN : l < N) :
    Calls Try.prog 38 #[.pointer (some ⟨p, 0, none⟩), .int .i64 i, Cl.agg ⟨11, l, o, n, k, v⟩] w
      (StepPost w B p pl pe N (m.drop l x) ⟨-1, 0, m.val x⟩) := by
  have M0 := Mid.start h.ir ⟨11, l, o, n, k, v⟩
  have HH := Lib.hid h
  clear h
  unfold Cl.agg
  unfold callBlock ansBlock at M0
  simp only at M0 ⊢
  go_enter Try.func38, Try.ntmps38
  go_wp2
  generalize ((w.alloc _).alloc _) = W at M0 ⊢
  obtain ⟨a0, a1, a2, a3, a4, a5, a6, a7⟩ := M0.args
  have p0 := M0.ir.p0
  have cl := M0.list hl hlN
  simp only at a0 a1 a2 a3 a4 a5 a6 a7
  have HM := Lib.hid M0
  clear M0
  go_quiet (fail)
  have HM := Lib.hid (HM.out.drewN nq)
  go_wp2_with fail
  refine (elem_c HM.out.ir hn hr).mono ?_
  rintro r w' ⟨rfl, rfl⟩
  clear a0 a1 a2 a3 a4 a5 a6 a7 p0 cl
  go_wp2_with fail
  refine (remove_I HM.out.ir HH.out.wf hl hx (by have := HH.out.hc; omega)).mono ?_
  rintro r w' ⟨b', y, rfl, hv, hI, hT⟩
  have M2 := HM.out.step hI hT; clear hI hT
  have HV := Lib.hid hv; have HM2 := Lib.hid M2
  clear hv M2
  go_wp2_with fail
  refine (told_c HV.out).mono ?_
  rintro r w'' ⟨rfl, hB⟩
  have M3 := HM2.out.step (HM2.out.ir.below hB) (Touch.of_below hB)
  clear hB
  obtain ⟨f5, c0, c1, c2, c3, c4⟩ := ans_cells M3.ans
  generalize hvx : m.val x = vx
  have HVX := Lib.hid hvx
  have FIN := Lib.hid (M3.fin ⟨-1, 0, vx⟩)
  clear M3 hvx
  unfold Vl.agg
  go_wp2
  refine bodyPost_ret (v := An.agg ⟨-1, 0, vx⟩) ?_ rfl ⟨by rw [HVX.out], FIN.out⟩
  simp [results, Try.results38, go_sem, An.agg, f5, c0, c1, c2, c3, c4]

set_option maxHeartbeats 1000000 in
theorem change_11n (h : At w B p pl pe N m b bl be i) {l : Nat} {n x : Nat} {o k : Int} {v : Vl} (hn : n < N) (hr : m.ret n = some x) (hx : x ∉ m.seq l) (hxc : x < m.cnt) (hst : m.clr x ≠ some l) (hl : m.isL l = true) (hlN : l < N) :
    Calls Try.prog 38 #[.pointer (some ⟨p, 0, none⟩), .int .i64 i, Cl.agg ⟨11, l, o, n, k, v⟩] w
      (StepPost w B p pl pe N m ⟨-1, 0, m.val x⟩) := by
  have M0 := Mid.start h.ir ⟨11, l, o, n, k, v⟩
  have HH := Lib.hid h
  clear h
  unfold Cl.agg
  unfold callBlock ansBlock at M0
  simp only at M0 ⊢
  go_enter Try.func38, Try.ntmps38
  go_wp2
  generalize ((w.alloc _).alloc _) = W at M0 ⊢
  obtain ⟨a0, a1, a2, a3, a4, a5, a6, a7⟩ := M0.args
  have p0 := M0.ir.p0
  have cl := M0.list hl hlN
  simp only at a0 a1 a2 a3 a4 a5 a6 a7
  have HM := Lib.hid M0
  clear M0
  go_quiet (fail)
  have HM := Lib.hid (HM.out.drewN nq)
  go_wp2_with fail
  refine (elem_c HM.out.ir hn hr).mono ?_
  rintro r w' ⟨rfl, rfl⟩
  clear a0 a1 a2 a3 a4 a5 a6 a7 p0 cl
  go_wp2_with fail
  refine (remove_N HM.out.ir HH.out.wf hl hxc hst hx).mono ?_
  rintro r w' ⟨y, rfl, hv, rfl⟩
  have M2 := HM.out
  have HV := Lib.hid hv; have HM2 := Lib.hid M2
  clear hv M2
  go_wp2_with fail
  refine (told_c HV.out).mono ?_
  rintro r w'' ⟨rfl, hB⟩
  have M3 := HM2.out.step (HM2.out.ir.below hB) (Touch.of_below hB)
  clear hB
  obtain ⟨f5, c0, c1, c2, c3, c4⟩ := ans_cells M3.ans
  generalize hvx : m.val x = vx
  have HVX := Lib.hid hvx
  have FIN := Lib.hid (M3.fin ⟨-1, 0, vx⟩)
  clear M3 hvx
  unfold Vl.agg
  go_wp2
  refine bodyPost_ret (v := An.agg ⟨-1, 0, vx⟩) ?_ rfl ⟨by rw [HVX.out], FIN.out⟩
  simp [results, Try.results38, go_sem, An.agg, f5, c0, c1, c2, c3, c4]

set_option maxHeartbeats 1000000 in
theorem change_14 (h : At w B p pl pe N m b bl be i) {l : Nat} {o e k : Int} {v : Vl} (hl : m.isL l = true) (hlN : l < N) :
    Calls Try.prog 38 #[.pointer (some ⟨p, 0, none⟩), .int .i64 i, Cl.agg ⟨14, l, o, e, k, v⟩] w
      (StepPost w B p pl pe N (m.clear l) An.no) := by
  have M0 := Mid.start h.ir ⟨14, l, o, e, k, v⟩
  have HH := Lib.hid h
  clear h
  unfold Cl.agg
  unfold callBlock ansBlock at M0
  simp only at M0 ⊢
  go_enter Try.func38, Try.ntmps38
  go_wp2
  generalize ((w.alloc _).alloc _) = W at M0 ⊢
  obtain ⟨a0, a1, a2, a3, a4, a5, a6, a7⟩ := M0.args
  have p0 := M0.ir.p0
  have cl := M0.list hl hlN
  simp only at a0 a1 a2 a3 a4 a5 a6 a7
  have HM := Lib.hid M0
  clear M0
  go_quiet (fail)
  have HM := Lib.hid (HM.out.drewN nq)
  go_wp2_with fail
  clear a0 a1 a2 a3 a4 a5 a6 a7 p0 cl
  refine (init_I HM.out.ir HH.out.wf hl).mono ?_
  rintro r w' ⟨rfl, ⟨b', hI⟩, hT⟩
  have M3 := HM.out.step hI hT
  clear hI hT
  obtain ⟨f5, c0, c1, c2, c3, c4⟩ := ans_cells M3.ans
  have FIN := Lib.hid (M3.fin An.no)
  clear M3
  go_wp2
  refine bodyPost_ret (v := An.agg An.no) ?_ rfl ⟨rfl, FIN.out⟩
  simp [results, Try.results38, go_sem, An.agg, An.no, Vl.zero, f5, c0, c1, c2, c3, c4]
  try rfl

set_option maxHeartbeats 1000000 in
theorem change_12 (h : At w B p pl pe N m b bl be i) {l : Nat} {q : Nat} {e k : Int} {v : Vl} (hq : m.isL q = true) (hqN : q < N) (hl : m.isL l = true) (hlN : l < N) :
    Calls Try.prog 38 #[.pointer (some ⟨p, 0, none⟩), .int .i64 i, Cl.agg ⟨12, l, (q : Nat), e, k, v⟩] w
      (StepPost w B p pl pe N ((m.copy l (m.seq q)).setSeq l (m.seq l ++ List.range' m.cnt (m.seq q).length)) An.no) := by
  have M0 := Mid.start h.ir ⟨12, l, (q : Nat), e, k, v⟩
  have HH := Lib.hid h
  clear h
  unfold Cl.agg
  unfold callBlock ansBlock at M0
  simp only at M0 ⊢
  go_enter Try.func38, Try.ntmps38
  go_wp2
  generalize ((w.alloc _).alloc _) = W at M0 ⊢
  obtain ⟨a0, a1, a2, a3, a4, a5, a6, a7⟩ := M0.args
  have p0 := M0.ir.p0
  have cl := M0.list hl hlN
  simp only at a0 a1 a2 a3 a4 a5 a6 a7
  have HM := Lib.hid M0
  clear M0
  go_quiet (fail)
  have HM := Lib.hid (HM.out.drewN nq)
  have cq := HM.out.list hq hqN
  have p0' := HM.out.ir.p0
  have b0 := HM.out.args.1
  have b2 := HM.out.args.2.2.1
  simp only at b0 b2
  have hN := HH.out.hN
  clear a0 a1 a2 a3 a4 a5 a6 a7 p0 cl
  generalize W.drewN nq = W2 at HM cq p0' b0 b2 ⊢
  go_wp2_with fail
  go_region_with (go_at_call 68; refine (pushBackList_I (HM.out.drewN 1).ir HH.out.wf hl hq HH.out.hc).mono ?_; rintro r w' ⟨rfl, ⟨b', be', hI⟩, hT⟩; have M3 := (HM.out.drewN 1).step hI hT; clear hI hT; obtain ⟨f5, c0, c1, c2, c3, c4⟩ := ans_cells M3.ans; have FIN := Lib.hid (M3.fin An.no); clear M3)
  all_goals
    go_wp2
    refine bodyPost_ret (v := An.agg An.no) ?_ rfl ⟨rfl, FIN.out⟩
    simp [results, Try.results38, go_sem, An.agg, An.no, Vl.zero, f5, c0, c1, c2, c3, c4]
    try rfl

set_option maxHeartbeats 1000000 in
theorem change_13 (h : At w B p pl pe N m b bl be i) {l : Nat} {q : Nat} {e k : Int} {v : Vl} (hq : m.isL q = true) (hqN : q < N) (hl : m.isL l = true) (hlN : l < N) :
    Calls Try.prog 38 #[.pointer (some ⟨p, 0, none⟩), .int .i64 i, Cl.agg ⟨13, l, (q : Nat), e, k, v⟩] w
      (StepPost w B p pl pe N ((m.copy l (m.seq q)).setSeq l (List.range' m.cnt (m.seq q).length ++ m.seq l)) An.no) := by
  have M0 := Mid.start h.ir ⟨13, l, (q : Nat), e, k, v⟩
  have HH := Lib.hid h
  clear h
  unfold Cl.agg
  unfold callBlock ansBlock at M0
  simp only at M0 ⊢
  go_enter Try.func38, Try.ntmps38
  go_wp2
  generalize ((w.alloc _).alloc _) = W at M0 ⊢
  obtain ⟨a0, a1, a2, a3, a4, a5, a6, a7⟩ := M0.args
  have p0 := M0.ir.p0
  have cl := M0.list hl hlN
  simp only at a0 a1 a2 a3 a4 a5 a6 a7
  have HM := Lib.hid M0
  clear M0
  go_quiet (fail)
  have HM := Lib.hid (HM.out.drewN nq)
  have cq := HM.out.list hq hqN
  have p0' := HM.out.ir.p0
  have b0 := HM.out.args.1
  have b2 := HM.out.args.2.2.1
  simp only at b0 b2
  have hN := HH.out.hN
  clear a0 a1 a2 a3 a4 a5 a6 a7 p0 cl
  generalize W.drewN nq = W2 at HM cq p0' b0 b2 ⊢
  go_wp2_with fail
  go_region_with (go_at_call 69; refine (pushFrontList_I (HM.out.drewN 1).ir HH.out.wf hl hq HH.out.hc).mono ?_; rintro r w' ⟨rfl, ⟨b', be', hI⟩, hT⟩; have M3 := (HM.out.drewN 1).step hI hT; clear hI hT; obtain ⟨f5, c0, c1, c2, c3, c4⟩ := ans_cells M3.ans; have FIN := Lib.hid (M3.fin An.no); clear M3)
  all_goals
    go_wp2
    refine bodyPost_ret (v := An.agg An.no) ?_ rfl ⟨rfl, FIN.out⟩
    simp [results, Try.results38, go_sem, An.agg, An.no, Vl.zero, f5, c0, c1, c2, c3, c4]
    try rfl

set_option maxHeartbeats 1000000 in
theorem change_9 (h : At w B p pl pe N m b bl be i) {l : Nat} {n x j y : Nat} {o : Int} {v : Vl} (hn : n < N) (hr : m.ret n = some x) (hj : j < N) (hy : m.ret j = some y) (hx : x ∈ m.seq l) (hyl : y ∈ m.seq l) (hne : ¬ y = x) (hl : m.isL l = true) (hlN : l < N) :
    Calls Try.prog 38 #[.pointer (some ⟨p, 0, none⟩), .int .i64 i, Cl.agg ⟨9, l, o, n, (j : Nat), v⟩] w
      (StepPost w B p pl pe N ((m.take l x).put l (((m.take l x).seq l).idxOf y + 0) x) An.no) := by
  have M0 := Mid.start h.ir ⟨9, l, o, n, (j : Nat), v⟩
  have HH := Lib.hid h
  clear h
  unfold Cl.agg
  unfold callBlock ansBlock at M0
  simp only at M0 ⊢
  go_enter Try.func38, Try.ntmps38
  go_wp2
  generalize ((w.alloc _).alloc _) = W at M0 ⊢
  obtain ⟨a0, a1, a2, a3, a4, a5, a6, a7⟩ := M0.args
  have p0 := M0.ir.p0
  have cl := M0.list hl hlN
  simp only at a0 a1 a2 a3 a4 a5 a6 a7
  have HM := Lib.hid M0
  clear M0
  go_quiet (fail)
  have HM := Lib.hid (HM.out.drewN nq)
  have p0' := HM.out.ir.p0
  have b0 := HM.out.args.1
  have b3 := HM.out.args.2.2.2.1
  have b4 := HM.out.args.2.2.2.2.1
  simp only at b0 b3 b4
  clear a0 a1 a2 a3 a4 a5 a6 a7 p0 cl
  generalize W.drewN nq = W2 at HM p0' b0 b3 b4 ⊢
  have HR := Lib.hid hr; have HY := Lib.hid hy
  clear hr hy
  go_wp2_with fail
  go_region_with (first | (go_at_call_of 60 (Value.int IntKind.i64 (n : Int)); refine (elem_c (HM.out.drewN 1).ir hn HR.out).mono ?_; rintro r w' ⟨rfl, rfl⟩) | (go_at_call_of 60 (Value.int IntKind.i64 (j : Int)); refine (elem_c (HM.out.drewN 1).ir hj HY.out).mono ?_; rintro r w' ⟨rfl, rfl⟩) | (go_at_call 64; refine (move9_I (HM.out.drewN 1).ir HH.out.wf hl hx hyl hne).mono ?_; rintro r w' ⟨rfl, ⟨b', hI⟩, hT⟩; have M3 := (HM.out.drewN 1).step hI hT; obtain ⟨f5, c0, c1, c2, c3, c4⟩ := ans_cells M3.ans; have FIN := Lib.hid (M3.fin An.no); clear M3))
  all_goals
    go_wp2
    refine bodyPost_ret (v := An.agg An.no) ?_ rfl ⟨rfl, FIN.out⟩
    simp [results, Try.results38, go_sem, An.agg, An.no, Vl.zero, f5, c0, c1, c2, c3, c4]
    try rfl

set_option maxHeartbeats 1000000 in
theorem change_9n (h : At w B p pl pe N m b bl be i) {l : Nat} {n x j y : Nat} {o : Int} {v : Vl} (hn : n < N) (hr : m.ret n = some x) (hj : j < N) (hy : m.ret j = some y) (hxc : x < m.cnt) (hyc : y < m.cnt) (hst : m.clr x ≠ some l) (hst' : m.clr y ≠ some l) (hno : ¬ (x ∈ m.seq l ∧ ¬ y = x ∧ y ∈ m.seq l)) (hl : m.isL l = true) (hlN : l < N) :
    Calls Try.prog 38 #[.pointer (some ⟨p, 0, none⟩), .int .i64 i, Cl.agg ⟨9, l, o, n, (j : Nat), v⟩] w
      (StepPost w B p pl pe N m An.no) := by
  have M0 := Mid.start h.ir ⟨9, l, o, n, (j : Nat), v⟩
  have HH := Lib.hid h
  clear h
  unfold Cl.agg
  unfold callBlock ansBlock at M0
  simp only at M0 ⊢
  go_enter Try.func38, Try.ntmps38
  go_wp2
  generalize ((w.alloc _).alloc _) = W at M0 ⊢
  obtain ⟨a0, a1, a2, a3, a4, a5, a6, a7⟩ := M0.args
  have p0 := M0.ir.p0
  have cl := M0.list hl hlN
  simp only at a0 a1 a2 a3 a4 a5 a6 a7
  have HM := Lib.hid M0
  clear M0
  go_quiet (fail)
  have HM := Lib.hid (HM.out.drewN nq)
  have p0' := HM.out.ir.p0
  have b0 := HM.out.args.1
  have b3 := HM.out.args.2.2.2.1
  have b4 := HM.out.args.2.2.2.2.1
  simp only at b0 b3 b4
  clear a0 a1 a2 a3 a4 a5 a6 a7 p0 cl
  generalize W.drewN nq = W2 at HM p0' b0 b3 b4 ⊢
  have HR := Lib.hid hr; have HY := Lib.hid hy
  clear hr hy
  go_wp2_with fail
  go_region_with (first | (go_at_call_of 60 (Value.int IntKind.i64 (n : Int)); refine (elem_c (HM.out.drewN 1).ir hn HR.out).mono ?_; rintro r w' ⟨rfl, rfl⟩) | (go_at_call_of 60 (Value.int IntKind.i64 (j : Int)); refine (elem_c (HM.out.drewN 1).ir hj HY.out).mono ?_; rintro r w' ⟨rfl, rfl⟩) | (go_at_call 64; refine (move9_N (HM.out.drewN 1).ir HH.out.wf hl hxc hyc hst hst' hno).mono ?_; rintro r w' ⟨rfl, rfl⟩; have M3 := HM.out.drewN 1; obtain ⟨f5, c0, c1, c2, c3, c4⟩ := ans_cells M3.ans; have FIN := Lib.hid (M3.fin An.no); clear M3))
  all_goals
    go_wp2
    refine bodyPost_ret (v := An.agg An.no) ?_ rfl ⟨rfl, FIN.out⟩
    simp [results, Try.results38, go_sem, An.agg, An.no, Vl.zero, f5, c0, c1, c2, c3, c4]
    try rfl

set_option maxHeartbeats 1000000 in
theorem change_10 (h : At w B p pl pe N m b bl be i) {l : Nat} {n x j y : Nat} {o : Int} {v : Vl} (hn : n < N) (hr : m.ret n = some x) (hj : j < N) (hy : m.ret j = some y) (hx : x ∈ m.seq l) (hyl : y ∈ m.seq l) (hne : ¬ y = x) (hl : m.isL l = true) (hlN : l < N) :
    Calls Try.prog 38 #[.pointer (some ⟨p, 0, none⟩), .int .i64 i, Cl.agg ⟨10, l, o, n, (j : Nat), v⟩] w
      (StepPost w B p pl pe N ((m.take l x).put l (((m.take l x).seq l).idxOf y + 1) x) An.no) := by
  have M0 := Mid.start h.ir ⟨10, l, o, n, (j : Nat), v⟩
  have HH := Lib.hid h
  clear h
  unfold Cl.agg
  unfold callBlock ansBlock at M0
  simp only at M0 ⊢
  go_enter Try.func38, Try.ntmps38
  go_wp2
  generalize ((w.alloc _).alloc _) = W at M0 ⊢
  obtain ⟨a0, a1, a2, a3, a4, a5, a6, a7⟩ := M0.args
  have p0 := M0.ir.p0
  have cl := M0.list hl hlN
  simp only at a0 a1 a2 a3 a4 a5 a6 a7
  have HM := Lib.hid M0
  clear M0
  go_quiet (fail)
  have HM := Lib.hid (HM.out.drewN nq)
  have p0' := HM.out.ir.p0
  have b0 := HM.out.args.1
  have b3 := HM.out.args.2.2.2.1
  have b4 := HM.out.args.2.2.2.2.1
  simp only at b0 b3 b4
  clear a0 a1 a2 a3 a4 a5 a6 a7 p0 cl
  generalize W.drewN nq = W2 at HM p0' b0 b3 b4 ⊢
  have HR := Lib.hid hr; have HY := Lib.hid hy
  clear hr hy
  go_wp2_with fail
  go_region_with (first | (go_at_call_of 60 (Value.int IntKind.i64 (n : Int)); refine (elem_c (HM.out.drewN 1).ir hn HR.out).mono ?_; rintro r w' ⟨rfl, rfl⟩) | (go_at_call_of 60 (Value.int IntKind.i64 (j : Int)); refine (elem_c (HM.out.drewN 1).ir hj HY.out).mono ?_; rintro r w' ⟨rfl, rfl⟩) | (go_at_call 65; refine (move10_I (HM.out.drewN 1).ir HH.out.wf hl hx hyl hne).mono ?_; rintro r w' ⟨rfl, ⟨b', hI⟩, hT⟩; have M3 := (HM.out.drewN 1).step hI hT; obtain ⟨f5, c0, c1, c2, c3, c4⟩ := ans_cells M3.ans; have FIN := Lib.hid (M3.fin An.no); clear M3))
  all_goals
    go_wp2
    refine bodyPost_ret (v := An.agg An.no) ?_ rfl ⟨rfl, FIN.out⟩
    simp [results, Try.results38, go_sem, An.agg, An.no, Vl.zero, f5, c0, c1, c2, c3, c4]
    try rfl

set_option maxHeartbeats 1000000 in
theorem change_10n (h : At w B p pl pe N m b bl be i) {l : Nat} {n x j y : Nat} {o : Int} {v : Vl} (hn : n < N) (hr : m.ret n = some x) (hj : j < N) (hy : m.ret j = some y) (hxc : x < m.cnt) (hyc : y < m.cnt) (hst : m.clr x ≠ some l) (hst' : m.clr y ≠ some l) (hno : ¬ (x ∈ m.seq l ∧ ¬ y = x ∧ y ∈ m.seq l)) (hl : m.isL l = true) (hlN : l < N) :
    Calls Try.prog 38 #[.pointer (some ⟨p, 0, none⟩), .int .i64 i, Cl.agg ⟨10, l, o, n, (j : Nat), v⟩] w
      (StepPost w B p pl pe N m An.no) := by
  have M0 := Mid.start h.ir ⟨10, l, o, n, (j : Nat), v⟩
  have HH := Lib.hid h
  clear h
  unfold Cl.agg
  unfold callBlock ansBlock at M0
  simp only at M0 ⊢
  go_enter Try.func38, Try.ntmps38
  go_wp2
  generalize ((w.alloc _).alloc _) = W at M0 ⊢
  obtain ⟨a0, a1, a2, a3, a4, a5, a6, a7⟩ := M0.args
  have p0 := M0.ir.p0
  have cl := M0.list hl hlN
  simp only at a0 a1 a2 a3 a4 a5 a6 a7
  have HM := Lib.hid M0
  clear M0
  go_quiet (fail)
  have HM := Lib.hid (HM.out.drewN nq)
  have p0' := HM.out.ir.p0
  have b0 := HM.out.args.1
  have b3 := HM.out.args.2.2.2.1
  have b4 := HM.out.args.2.2.2.2.1
  simp only at b0 b3 b4
  clear a0 a1 a2 a3 a4 a5 a6 a7 p0 cl
  generalize W.drewN nq = W2 at HM p0' b0 b3 b4 ⊢
  have HR := Lib.hid hr; have HY := Lib.hid hy
  clear hr hy
  go_wp2_with fail
  go_region_with (first | (go_at_call_of 60 (Value.int IntKind.i64 (n : Int)); refine (elem_c (HM.out.drewN 1).ir hn HR.out).mono ?_; rintro r w' ⟨rfl, rfl⟩) | (go_at_call_of 60 (Value.int IntKind.i64 (j : Int)); refine (elem_c (HM.out.drewN 1).ir hj HY.out).mono ?_; rintro r w' ⟨rfl, rfl⟩) | (go_at_call 65; refine (move10_N (HM.out.drewN 1).ir HH.out.wf hl hxc hyc hst hst' hno).mono ?_; rintro r w' ⟨rfl, rfl⟩; have M3 := HM.out.drewN 1; obtain ⟨f5, c0, c1, c2, c3, c4⟩ := ans_cells M3.ans; have FIN := Lib.hid (M3.fin An.no); clear M3))
  all_goals
    go_wp2
    refine bodyPost_ret (v := An.agg An.no) ?_ rfl ⟨rfl, FIN.out⟩
    simp [results, Try.results38, go_sem, An.agg, An.no, Vl.zero, f5, c0, c1, c2, c3, c4]
    try rfl
end
end Bead
end Go.Proofs.Ytidnmanljdadaaa
