/- How impl's player lies in memory, and the contracts of its methods number and elem. -/
import Derived.Test.YtidnmanljdadaaaRel
set_option linter.all false
namespace Go.Proofs.Ytidnmanljdadaaa
open Go.RowKit
namespace Bead
set_option maxRecDepth 100000

/-- Block g is a row of n cells of type t, cell i holding f i. -/
def Row (w : World) (g : Nat) (t : TypeId) (n : Nat) (f : Nat → Value) : Prop := ∃ c : Array Value, w.heap[g]? = some (Obj.cells c t (0, 0)) ∧ c.size = n ∧ ∀ i, i < n → c[i]? = some (f i)

section
variable {w w' : World} {g : Nat} {t : TypeId} {n : Nat} {f : Nat → Value}
theorem Row.cell (h : Row w g t n f) {i : Nat} (hi : i < n) : w.cell? ⟨g, i, none⟩ = some (f i) := by
  obtain ⟨c, h1, _, h3⟩ := h; exact cell_of_heap h1 (h3 i hi)
theorem Row.free (h : Row w g t n f) (o : Nat) : w.frozen? ⟨g, o, none⟩ = false := by
  obtain ⟨c, h1, _, _⟩ := h; exact free_of_heap h1
theorem Row.lt (h : Row w g t n f) : g < w.heap.size := by
  obtain ⟨c, h1, _, _⟩ := h; exact (Array.getElem?_eq_some_iff.1 h1).1
theorem Row.of_block (h : Row w g t n f) (hb : w'.heap[g]? = w.heap[g]?) : Row w' g t n f := by
  obtain ⟨c, h1, h2, h3⟩ := h; exact ⟨c, hb.trans h1, h2, h3⟩
theorem Row.alloc (h : Row w g t n f) (o : Obj) : Row (w.alloc o) g t n f := h.of_block (Below.heap_alloc _ _ _ h.lt)
theorem Row.congr {f' : Nat → Value} (h : Row w g t n f) (hf : ∀ i, i < n → f' i = f i) : Row w g t n f' := by
  obtain ⟨c, h1, h2, h3⟩ := h; exact ⟨c, h1, h2, fun i hi => by rw [hf i hi]; exact h3 i hi⟩
theorem Row.set (h : Row w g t n f) {i : Nat} (hi : i < n) (v : Value) : Row (w.setCell ⟨g, i, none⟩ v) g t n (upd f i v) := by
  obtain ⟨c, h1, h2, h3⟩ := h
  refine ⟨c.setIfInBounds i v, heap_set h1, by simp [h2], fun j hj => ?_⟩
  rw [Array.getElem?_setIfInBounds]
  by_cases q : i = j
  · subst q; rw [if_pos rfl, if_pos (by omega), upd_same]
  · rw [if_neg q, upd_other _ _ (fun e => q e.symm)]; exact h3 j hj
end

def An.agg (a : An) : Value := .agg #[.int .i64 a.elem, .int .i64 a.n, .int .i64 a.v.kind, .int .i64 a.v.n, .string a.v.s]
def Cl.agg (c : Cl) : Value := .agg #[.int .i64 c.op, .int .i64 c.list, .int .i64 c.other, .int .i64 c.elem, .int .i64 c.mark, .int .i64 c.v.kind, .int .i64 c.v.n, .string c.v.s]

def rowL (m : Md) (bl : Nat → Nat) (i : Nat) : Value := pt (if m.isL i = true then some (bl i) else none)
def rowE (m : Md) (be : Nat → Nat) (i : Nat) : Value := pt ((m.ret i).map be)

structure IR (w : World) (B p pl pe N : Nat) (m : Md) (b : BM) (bl be : Nat → Nat) : Prop where
  pc : w.heap[p]? = some (Obj.cells #[.slice (some ⟨pl, 0, none⟩) N N, .slice (some ⟨pe, 0, none⟩) N N] 90 (0, 0))
  lrow : Row w pl 107 N (rowL m bl)
  erow : Row w pe 109 N (rowE m be)
  rep : BRep w b
  rel : Rel m b bl be
  vals : ∀ e, e < m.cnt → VRep w (m.val e) (b.vl (be e))
  base : B ≤ p ∧ B ≤ pl ∧ B ≤ pe ∧ ∀ k, b.node k → B ≤ k

theorem BRep.typed {w : World} {b : BM} (h : BRep w b) {k : Nat} {c : Array Value} {t : TypeId} {f : Nat × Nat} (hk : w.heap[k]? = some (Obj.cells c t f)) (h1 : t ≠ 123) (h2 : t ≠ 121) : ¬ b.node k := by
  obtain ⟨nx, pv, a, _⟩ := h
  rintro (q | q)
  · have := hk.symm.trans (a.l k q); simp at this; exact h1 this.2.1
  · have := hk.symm.trans (a.e k q); simp at this; exact h2 this.2.1

section
variable {w w' : World} {B p pl pe N : Nat} {m m' : Md} {b b' : BM} {bl bl' be be' : Nat → Nat}
theorem IR.p_not (h : IR w B p pl pe N m b bl be) : ¬ b.node p := h.rep.typed h.pc (by decide) (by decide)
theorem IR.pl_not (h : IR w B p pl pe N m b bl be) : ¬ b.node pl := by obtain ⟨c, h1, _⟩ := h.lrow; exact h.rep.typed h1 (by decide) (by decide)
theorem IR.pe_not (h : IR w B p pl pe N m b bl be) : ¬ b.node pe := by obtain ⟨c, h1, _⟩ := h.erow; exact h.rep.typed h1 (by decide) (by decide)
theorem IR.p_pl (h : IR w B p pl pe N m b bl be) : ¬ p = pl := fun q => by
  obtain ⟨c, h1, _⟩ := h.lrow; rw [← q, h.pc] at h1; simp at h1
theorem IR.p_pe (h : IR w B p pl pe N m b bl be) : ¬ p = pe := fun q => by
  obtain ⟨c, h1, _⟩ := h.erow; rw [← q, h.pc] at h1; simp at h1
theorem IR.pl_pe (h : IR w B p pl pe N m b bl be) : ¬ pl = pe := fun q => by
  obtain ⟨c, h1, _⟩ := h.lrow; obtain ⟨d, h2, _⟩ := h.erow; rw [q, h2] at h1; simp at h1
theorem IR.p0 (h : IR w B p pl pe N m b bl be) : w.cell? ⟨p, 0, none⟩ = some (.slice (some ⟨pl, 0, none⟩) N N) := cell_of_heap h.pc rfl
theorem IR.p1 (h : IR w B p pl pe N m b bl be) : w.cell? ⟨p, 1, none⟩ = some (.slice (some ⟨pe, 0, none⟩) N N) := cell_of_heap h.pc rfl
theorem IR.plt (h : IR w B p pl pe N m b bl be) : p < w.heap.size := (Array.getElem?_eq_some_iff.1 h.pc).1

/-- Whatever keeps our blocks and the values keeps it all. -/
theorem IR.of_blocks (h : IR w B p pl pe N m b bl be) (hk : ∀ k, k = p ∨ k = pl ∨ k = pe ∨ b.node k → w'.heap[k]? = w.heap[k]?)
    (hv : ∀ (k : Nat) (c : Array Value), w.heap[k]? = some (Obj.cells c 30 (0, 0)) → w'.heap[k]? = some (Obj.cells c 30 (0, 0))) : IR w' B p pl pe N m b bl be := by
  refine ⟨(hk p (.inl rfl)).trans h.pc, h.lrow.of_block (hk pl (.inr (.inl rfl))), h.erow.of_block (hk pe (.inr (.inr (.inl rfl)))), ?_, h.rel, fun e he => (h.vals e he).keep hv, h.base⟩
  obtain ⟨nx, pv, a, g⟩ := h.rep
  exact ⟨nx, pv, a.of_blocks (fun k q => hk k (.inr (.inr (.inr q)))), g⟩
theorem IR.size_lt (h : IR w B p pl pe N m b bl be) {k : Nat} (hk : k = p ∨ k = pl ∨ k = pe ∨ b.node k) : k < w.heap.size := by
  rcases hk with q | q | q | q
  · exact q ▸ h.plt
  · exact q ▸ h.lrow.lt
  · exact q ▸ h.erow.lt
  · exact h.rep.lt q
theorem IR.alloc (h : IR w B p pl pe N m b bl be) (o : Obj) : IR (w.alloc o) B p pl pe N m b bl be :=
  h.of_blocks (fun k q => Below.heap_alloc _ _ _ (h.size_lt q)) (fun k c q => heap_alloc_keep q)
theorem IR.drew (h : IR w B p pl pe N m b bl be) : IR w.drew B p pl pe N m b bl be := h.of_blocks (fun _ _ => rfl) (fun _ _ q => q)
theorem IR.drewN (h : IR w B p pl pe N m b bl be) (n : Nat) : IR (w.drewN n) B p pl pe N m b bl be := h.of_blocks (fun _ _ => rfl) (fun _ _ q => q)
theorem IR.below (h : IR w B p pl pe N m b bl be) (hb : Below w.heap.size w w') : IR w' B p pl pe N m b bl be :=
  h.of_blocks (fun k q => hb.block k (h.size_lt q)) (fun k c q => (hb.block k (Array.getElem?_eq_some_iff.1 q).1).trans q)
/-- A store into a block that is none of ours and bears no value's parts. -/
theorem IR.setOther (h : IR w B p pl pe N m b bl be) {a : Addr} {c : Array Value} {t : TypeId} (ha : w.heap[a.block]? = some (Obj.cells c t (0, 0))) (v : Value)
    (h1 : t ≠ 123) (h2 : t ≠ 121) (h3 : t ≠ 107) (h4 : t ≠ 109) (h5 : t ≠ 90) (h6 : t ≠ 30) : IR (w.setCell a v) B p pl pe N m b bl be := by
  refine h.of_blocks (fun k q => heap_set_other ?_) (fun k c' q => ?_)
  · rintro rfl
    rcases q with q | q | q | q
    · have := h.pc; rw [← q, ha] at this; simp at this; exact h5 this.2
    · obtain ⟨d, hd, _⟩ := h.lrow; rw [← q, ha] at hd; simp at hd; exact h3 hd.2
    · obtain ⟨d, hd, _⟩ := h.erow; rw [← q, ha] at hd; simp at hd; exact h4 hd.2
    · exact h.rep.typed ha h1 h2 q
  · rw [heap_set_other]; exact q
    rintro rfl; rw [ha] at q; simp at q; exact h6 q.2

theorem IR.vkeep (h : IR w B p pl pe N m b bl be) (hk : Keeps b.node w w') : ∀ (k : Nat) (c : Array Value), w.heap[k]? = some (Obj.cells c 30 (0, 0)) → w'.heap[k]? = some (Obj.cells c 30 (0, 0)) :=
  fun k _ q => (hk.block k (Array.getElem?_eq_some_iff.1 q).1 (h.rep.typed q (by decide) (by decide))).trans q

/-- A step of the lists. -/
theorem IR.change (h : IR w B p pl pe N m b bl be) (hk : Keeps b.node w w') (hrep : BRep w' b') (hrel : Rel m' b' bl' be') (hL : ∀ i, i < N → rowL m' bl' i = rowL m bl i) (hE : ∀ i, i < N → rowE m' be' i = rowE m be i)
    (hv : ∀ e, e < m'.cnt → VRep w' (m'.val e) (b'.vl (be' e))) (hB : ∀ k, b'.node k → b.node k ∨ w.heap.size ≤ k) : IR w' B p pl pe N m' b' bl' be' := by
  refine ⟨(hk.block p h.plt h.p_not).trans h.pc, (h.lrow.of_block (hk.block pl h.lrow.lt h.pl_not)).congr hL, (h.erow.of_block (hk.block pe h.erow.lt h.pe_not)).congr hE, hrep, hrel, hv, h.base.1, h.base.2.1, h.base.2.2.1, ?_⟩
  intro k hk'
  rcases hB k hk' with q | q
  · exact h.base.2.2.2 k q
  · have := h.plt; have := h.base.1; omega

/-- Call i returns e. -/
theorem IR.give (h : IR w B p pl pe N m b bl be) {i e : Nat} (hi : i < N) : IR (w.setCell ⟨pe, i, none⟩ (.pointer (some ⟨be e, 0, none⟩))) B p pl pe N (m.give i e) b bl be := by
  have hne : ∀ k, k = p ∨ k = pl ∨ b.node k → ¬ k = pe := by
    rintro k (q | q | q)
    · exact q ▸ h.p_pe
    · exact q ▸ h.pl_pe
    · rintro rfl; exact h.pe_not q
  refine ⟨(heap_set_other (hne p (.inl rfl))).trans h.pc, h.lrow.of_block (heap_set_other (hne pl (.inr (.inl rfl)))), ?_, ?_, h.rel.give i e, ?_, h.base⟩
  · refine (h.erow.set hi (.pointer (some ⟨be e, 0, none⟩))).congr ?_
    intro j _
    simp only [rowE, Md.give]
    by_cases q : j = i
    · subst q; rw [upd_same, upd_same]; rfl
    · rw [upd_other _ _ q, upd_other _ _ q]; rfl
  · obtain ⟨nx, pv, a, g⟩ := h.rep
    exact ⟨nx, pv, a.of_blocks (fun k q => heap_set_other (hne k (.inr (.inr q)))), g⟩
  · intro f hf
    refine (h.vals f hf).keep ?_
    intro k c q
    rw [heap_set_other]; exact q
    rintro rfl
    obtain ⟨d, hd, _⟩ := h.erow; rw [q] at hd; simp at hd
end

/-- The result's block. -/
def ansBlock : Obj := .cells #[.int .i64 0, .int .i64 0, .int .i64 0, .int .i64 0, .string ⟨#[]⟩] 41

section
variable {w : World} {B p pl pe N : Nat} {m : Md} {b : BM} {bl be : Nat → Nat}

theorem elem_c (h : IR w B p pl pe N m b bl be) {n e : Nat} (hn : n < N) (he : m.ret n = some e) :
    Calls Try.prog 60 #[.pointer (some ⟨p, 0, none⟩), .int .i64 n] w fun r w' => r = .returned (.pointer (some ⟨be e, 0, none⟩)) ∧ w = w' := by
  have c1 := h.p1
  have c2 := h.erow.cell hn
  simp only [rowE, he, Option.map_some, pt_some] at c2
  clear he
  go_enter Try.func60, Try.ntmps60
  go_wp2
  go_ret
  exact ⟨rfl, rfl⟩

theorem number_nil (i : Int) : Calls Try.prog 55 #[.pointer (some ⟨p, 0, none⟩), .int .i64 i, .pointer none] w fun r w' => r = .returned An.no.agg ∧ Below w.heap.size w w' := by
  go_enter Try.func55, Try.ntmps55
  go_wp2
  exact bodyPost_ret (v := An.no.agg) (by simp [results, Try.results55, go_sem, An.agg, An.no, Vl.zero]; rfl) rfl ⟨rfl, (Below.refl _ _).alloc (Nat.le_refl _) _⟩

structure NumAt (w : World) (B p pl pe N : Nat) (m : Md) (b : BM) (bl be : Nat → Nat) (i e : Nat) (wr : World) : Prop where
  ir : IR wr B p pl pe N (m.give i e) b bl be
  keeps : Keeps (fun k => k = pe) w wr
  ans : wr.heap[w.heap.size]? = some ansBlock
end
theorem eql_nil_E {W : World} (q : Option Addr) (hq : q ≠ none) : (binOp .eql 109 (.pointer none) (.pointer q)).run Try.prog W = .ok (.bool false) W := by
  have h : ∀ d : Nat, (Op.equalIn (d + 1) 109 (.pointer none) (.pointer q)).run Try.prog W = .ok false W := fun d => by
    cases q with
    | none => exact absurd rfl hq
    | some q => simp [Op.equalIn, run_underlying Try.underlying109]
  simp only [binOp]
  simp [Op.equal, Op.maxDepth, h 9999]

section
variable {w : World} {B p pl pe N : Nat} {m : Md} {b : BM} {bl be : Nat → Nat}

/-- What a round of number's loop knows: the pointer that it reads, and what the comparison gives. -/
theorem NumAt.round {i e k : Nat} {wr : World} (h : NumAt w B p pl pe N m b bl be i e wr) (hw : WF m) (he : e < m.cnt) (hi : i < N) (hk : k < i) :
    ∃ o, wr.cell? ⟨pe, k, none⟩ = some (.pointer o) ∧ (binOp .eql 109 (.pointer o) (.pointer (some ⟨be e, 0, none⟩))).run Try.prog wr = .ok (.bool (decide (m.ret k = some e))) wr := by
  have c := h.ir.erow.cell (i := k) (by omega)
  have e1 : (m.give i e).ret k = m.ret k := upd_other _ _ (by omega)
  simp only [rowE, e1] at c
  refine ⟨_, c, ?_⟩
  cases hr : m.ret k with
  | none => simp; exact eql_nil_E _ (by simp)
  | some f =>
    have hf := (hw.rlt k f hr).2
    simp only [Option.map_some]
    refine eql_E (h.ir.rep.plain (.inr (h.ir.rel.isElem hf))) (h.ir.rep.plain (.inr (h.ir.rel.isElem he))) _ ?_
    by_cases q : f = e
    · simp [q]
    · simp [q]; exact fun r => q (h.ir.rel.einj f e hf he r)

/-- Five stores into the result's block. -/
def put5 (w : World) (k : Nat) (a : An) : World :=
  ((((w.setCell ⟨k, 0, none⟩ (.int .i64 a.elem)).setCell ⟨k, 1, none⟩ (.int .i64 a.n)).setCell ⟨k, 2, none⟩ (.int .i64 a.v.kind)).setCell ⟨k, 3, none⟩ (.int .i64 a.v.n)).setCell ⟨k, 4, none⟩ (.string a.v.s)

theorem put5_heap {wr : World} {k : Nat} {c : Array Value} (h : wr.heap[k]? = some (Obj.cells c 41 (0, 0))) (hc : c.size = 5) (a : An) :
    (put5 wr k a).heap[k]? = some (Obj.cells #[.int .i64 a.elem, .int .i64 a.n, .int .i64 a.v.kind, .int .i64 a.v.n, .string a.v.s] 41 (0, 0)) := by
  unfold put5
  rw [heap_set (heap_set (heap_set (heap_set (heap_set h))))]
  obtain ⟨l⟩ := c
  match l, hc with
  | [c0, c1, c2, c3, c4], _ => rfl
theorem put5_other {wr : World} {k j : Nat} (a : An) (h : ¬ j = k) : (put5 wr k a).heap[j]? = wr.heap[j]? := by
  unfold put5
  rw [heap_set_other h, heap_set_other h, heap_set_other h, heap_set_other h, heap_set_other h]
theorem IR.put5 {wr : World} {k : Nat} {c : Array Value} (h : IR wr B p pl pe N m b bl be) (hk : wr.heap[k]? = some (Obj.cells c 41 (0, 0))) (a : An) : IR (put5 wr k a) B p pl pe N m b bl be := by
  have st : ∀ {W : World} {d : Array Value} (o : Nat) (v : Value), IR W B p pl pe N m b bl be → W.heap[k]? = some (Obj.cells d 41 (0, 0)) → IR (W.setCell ⟨k, o, none⟩ v) B p pl pe N m b bl be :=
    fun o v hI hd => hI.setOther (a := ⟨k, o, none⟩) hd v (by decide) (by decide) (by decide) (by decide) (by decide) (by decide)
  unfold Bead.put5
  have h1 := st 0 (.int .i64 a.elem) h hk
  have k1 := heap_set (o := 0) (v := .int .i64 a.elem) hk
  have h2 := st 1 (.int .i64 a.n) h1 k1
  have k2 := heap_set (o := 1) (v := .int .i64 a.n) k1
  have h3 := st 2 (.int .i64 a.v.kind) h2 k2
  have k3 := heap_set (o := 2) (v := .int .i64 a.v.kind) k2
  have h4 := st 3 (.int .i64 a.v.n) h3 k3
  have k4 := heap_set (o := 3) (v := .int .i64 a.v.n) k3
  exact st 4 (.string a.v.s) h4 k4
theorem Keeps.put5 {S : Nat → Prop} {w wr : World} {k : Nat} (h : Keeps S w wr) (hk : k < w.heap.size → S k) (a : An) : Keeps S w (put5 wr k a) := by
  unfold Bead.put5
  exact ((((h.setCell (p := ⟨k, 0, none⟩) hk _).setCell (p := ⟨k, 1, none⟩) hk _).setCell (p := ⟨k, 2, none⟩) hk _).setCell (p := ⟨k, 3, none⟩) hk _).setCell (p := ⟨k, 4, none⟩) hk _

/-- What the end of such a function reads. -/
theorem ans_cells {wr : World} {k : Nat} (h : wr.heap[k]? = some ansBlock) : (∀ o, wr.frozen? ⟨k, o, none⟩ = false) ∧ wr.cell? ⟨k, 0, none⟩ = some (.int .i64 0) ∧ wr.cell? ⟨k, 1, none⟩ = some (.int .i64 0) ∧ wr.cell? ⟨k, 2, none⟩ = some (.int .i64 0) ∧
    wr.cell? ⟨k, 3, none⟩ = some (.int .i64 0) ∧ wr.cell? ⟨k, 4, none⟩ = some (.string ⟨#[]⟩) :=
  ⟨fun _ => free_of_heap h, cell_of_heap h rfl, cell_of_heap h rfl, cell_of_heap h rfl, cell_of_heap h rfl, cell_of_heap h rfl⟩

theorem NumAt.fin {i e : Nat} {wr : World} (h : NumAt w B p pl pe N m b bl be i e wr) (a : An) :
    IR (put5 wr w.heap.size a) B p pl pe N (m.give i e) b bl be ∧ Keeps (fun k => k = pe) w (put5 wr w.heap.size a) :=
  ⟨h.ir.put5 h.ans a, h.keeps.put5 (fun q => by omega) a⟩

theorem num_found {j i e : Nat} (hw : WF m) (hj : m.ret j = some e) (hn : ∀ t, t < j → m.ret t ≠ some e) : m.num i e = ⟨j, 0, Vl.zero⟩ := by
  unfold Md.num
  cases hf : m.fst e with
  | none => exact absurd hj (hw.fst0 e hf j)
  | some k =>
    have := hw.fst1 e k hf
    have hkj : k = j := by
      rcases Nat.lt_trichotomy k j with q | q | q
      · exact absurd this.1 (hn k q)
      · exact q
      · exact absurd hj (this.2 j q)
    simp [hkj]
theorem num_new {i e : Nat} (hw : WF m) (hlate : ∀ j k, m.ret j = some k → j < i) (hn : ∀ t, t < i → m.ret t ≠ some e) : m.num i e = ⟨i, 0, Vl.zero⟩ := by
  unfold Md.num
  cases hf : m.fst e with
  | none => simp
  | some k =>
    have := (hw.fst1 e k hf).1
    exact absurd this (hn k (hlate k e this))

set_option maxHeartbeats 1000000 in
theorem number_c (h : IR w B p pl pe N m b bl be) (hw : WF m) {i e : Nat} (hi : i < N) (he : e < m.cnt) (hlate : ∀ j k, m.ret j = some k → j < i) (hN : N ≤ 4611686018427387904) :
    Calls Try.prog 55 #[.pointer (some ⟨p, 0, none⟩), .int .i64 i, .pointer (some ⟨be e, 0, none⟩)] w fun r w' =>
      r = .returned (m.num i e).agg ∧ IR w' B p pl pe N (m.give i e) b bl be ∧ Keeps (fun k => k = pe) w w' := by
  have p1 : ∀ o, (w.alloc o).cell? ⟨p, 1, none⟩ = some (.slice (some ⟨pe, 0, none⟩) N N) := fun o => (h.alloc o).p1
  have ce : ∀ o, (w.alloc o).cell? ⟨pe, i, none⟩ = some (rowE m be i) := fun o => (h.alloc o).erow.cell hi
  have fe : ∀ o, (w.alloc o).frozen? ⟨pe, i, none⟩ = false := fun o => (h.alloc o).erow.free i
  have A0 : Hid (NumAt w B p pl pe N m b bl be i e ((w.alloc ansBlock).setCell ⟨pe, i, none⟩ (.pointer (some ⟨be e, 0, none⟩)))) := by
    refine ⟨(h.alloc ansBlock).give hi, ((Keeps.refl (fun k => k = pe) w).alloc _).setCell (p := ⟨pe, i, none⟩) (fun _ => rfl) _, ?_⟩
    rw [heap_set_other (by have := h.erow.lt; simp; omega)]
    exact heap_alloc_new w _
  have hpe : ¬ w.heap.size = pe := by have := h.erow.lt; omega
  have HH := Lib.hid h; have HW := Lib.hid hw; have HL := Lib.hid hlate
  have HE := Lib.hid he
  clear h hw hlate he
  unfold ansBlock at A0
  go_enter Try.func55, Try.ntmps55
  go_wp2
  go_loopg [19] i (fun n k wr => ∃ j : Nat, j + n = i ∧ k = .int .i64 j ∧ (∀ t, t < j → m.ret t ≠ some e) ∧ NumAt w B p pl pe N m b bl be i e wr)
  case atStart => exact ⟨0, by omega, rfl, fun t ht => by omega, A0.out⟩
  case round =>
    clear A0 p1 ce fe
    obtain ⟨j, hj, rfl, hnone, hA⟩ := hrel
    obtain ⟨f5, c0, c1, c2, c3, c4⟩ := ans_cells hA.ans
    have p1 := hA.ir.p1
    by_cases hk0 : gk = 0
    · subst hk0
      obtain rfl : j = i := by omega
      have FIN := Lib.hid (hA.fin ⟨j, 0, Vl.zero⟩)
      have NUM := Lib.hid (num_new HW.out HL.out hnone)
      clear hA hnone hj
      go_wp2
      refine bodyPost_ret (v := An.agg ⟨j, 0, Vl.zero⟩) ?_ rfl ⟨by rw [NUM.out], FIN.out⟩
      simp [results, Try.results55, go_sem, An.agg, Vl.zero, f5, c0, c1, c2, c3, c4]
      rfl
    · have hji : j < i := by omega
      obtain ⟨o, ck, hq⟩ := hA.round HW.out HE.out hi hji
      by_cases hr : m.ret j = some e
      · rw [decide_eq_true hr] at hq
        have FIN := Lib.hid (hA.fin ⟨j, 0, Vl.zero⟩)
        have NUM := Lib.hid (num_found (i := i) HW.out hr hnone)
        have HJ := Lib.hid hj
        clear hA hnone hj hr
        go_wp2
        refine bodyPost_ret (v := An.agg ⟨j, 0, Vl.zero⟩) ?_ rfl ⟨by rw [NUM.out], FIN.out⟩
        simp [results, Try.results55, go_sem, An.agg, Vl.zero, f5, c0, c1, c2, c3, c4]
        rfl
      · rw [decide_eq_false hr] at hq
        have HA := Lib.hid hA; have HN := Lib.hid hnone; have HJ := Lib.hid hj; have HR := Lib.hid hr
        clear hA hnone hj hr
        go_wp2
        go_roundg (gk - 1)
        case measure => omega
        case rel =>
          refine ⟨j + 1, by have := HJ.out; omega, by go_num, fun t ht => ?_, HA.out⟩
          by_cases q : t = j
          · subst q; exact HR.out
          · exact HN.out t (by omega)
end
end Bead
end Go.Proofs.Ytidnmanljdadaaa
