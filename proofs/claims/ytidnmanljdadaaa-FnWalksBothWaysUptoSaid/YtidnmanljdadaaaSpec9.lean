/- The reference's methods that take a call: what lies in their memory; insert. -/
import Derived.Test.YtidnmanljdadaaaSpec8
import Derived.Test.YtidnmanljdadaaaSpec4
import Derived.Test.YtidnmanljdadaaaPlayer
set_option linter.all false
namespace Go.Proofs.Ytidnmanljdadaaa
open Go.RowKit
namespace Bead
set_option maxRecDepth 100000

def Cl.arr (c : Cl) : Array Value := #[.int .i64 c.op, .int .i64 c.list, .int .i64 c.other, .int .i64 c.elem, .int .i64 c.mark, .int .i64 c.v.kind, .int .i64 c.v.n, .string c.v.s]
def sAnsBlock : Obj := .cells #[.int .i64 0, .int .i64 0, .int .i64 0, .int .i64 0, .string ⟨#[]⟩] 84

/-- The kinds of the model's blocks. -/
def ownKind (t : TypeId) : Prop := t = 104 ∨ t = 4 ∨ t = 27 ∨ t = 3 ∨ t = 146
theorem SR.typed {w : World} {B g : Nat} {m : Md} {v0 v1 v2 v3 : Value} {ls : Nat → Value} (h : SR w B g m v0 v1 v2 v3 ls) {k : Nat} {c : Array Value} {t : TypeId} (hk : Foot g v0 v1 v2 v3 k) (hb : w.heap[k]? = some (Obj.cells c t (0, 0))) : ownKind t := by
  rcases hk with rfl | q | q | q | q
  · have := h.pc; rw [hb] at this; simp at this; exact .inl this.2
  · obtain ⟨d, hd⟩ := own_kind h.r0 _ q; rw [hb] at hd; simp at hd; exact .inr (.inl hd.2)
  · obtain ⟨d, hd⟩ := own_kind h.r1 _ q; rw [hb] at hd; simp at hd; exact .inr (.inr (.inl hd.2))
  · obtain ⟨d, hd⟩ := own_kind h.r2 _ q; rw [hb] at hd; simp at hd; exact .inr (.inr (.inr (.inl hd.2)))
  · obtain ⟨d, hd⟩ := own_kind h.r3 _ q; rw [hb] at hd; simp at hd; exact .inr (.inr (.inr (.inr hd.2)))

/-- The blocks that the next step of a method may write. -/
def tight (w W : World) (B : Nat) (F : Nat → Prop) (k : Nat) : Prop := (F k ∨ w.heap.size ≤ k) ∧ (∃ c t, W.heap[k]? = some (Obj.cells c t (0, 0)) ∧ ownKind t) ∧ B ≤ k
theorem SR.any {w : World} {B g : Nat} {m : Md} {v0 v1 v2 v3 : Value} {ls : Nat → Value} (h : SR w B g m v0 v1 v2 v3 ls) {k : Nat} (hk : Foot g v0 v1 v2 v3 k) : ∃ c t, w.heap[k]? = some (Obj.cells c t (0, 0)) ∧ ownKind t := by
  rcases hk with rfl | q | q | q | q
  · exact ⟨_, _, h.pc, .inl rfl⟩
  · obtain ⟨d, hd⟩ := own_kind h.r0 _ q; exact ⟨_, _, hd, .inr (.inl rfl)⟩
  · obtain ⟨d, hd⟩ := own_kind h.r1 _ q; exact ⟨_, _, hd, .inr (.inr (.inl rfl))⟩
  · obtain ⟨d, hd⟩ := own_kind h.r2 _ q; exact ⟨_, _, hd, .inr (.inr (.inr (.inl rfl)))⟩
  · obtain ⟨d, hd⟩ := own_kind h.r3 _ q; exact ⟨_, _, hd, .inr (.inr (.inr (.inr rfl)))⟩
/-- The model behind a number of a method's steps, handed to the next one: what that one leaves, and the blocks of other kinds that it keeps. -/
theorem SP.st {w W : World} {B g : Nat} {F : Nat → Prop} {m : Md} (h : SP w W B g F m) : ST W B g (tight w W B F) m := by
  obtain ⟨F1, ⟨v0, v1, v2, v3, ls, hs, hf, hF⟩, hb, hk⟩ := h
  refine ⟨v0, v1, v2, v3, ls, hs, fun k q => ⟨?_, hs.any q, (hs.lt q).1⟩, fun k q => ⟨q.2.2, ?_⟩⟩
  · exact hb k (hf k q)
  · obtain ⟨_, ⟨c, t, hc, _⟩, _⟩ := q; exact (Array.getElem?_eq_some_iff.1 hc).1
theorem SP.next {w W W1 : World} {B g : Nat} {F : Nat → Prop} {m m1 : Md} (h : SP w W B g F m) (h1 : SP W W1 B g (tight w W B F) m1) : SP w W1 B g F m1 := by
  obtain ⟨F1, _, hb, hk⟩ := h
  obtain ⟨F2, a, b, c⟩ := h1
  refine ⟨F2, a, fun k q => ?_, hk.then c (fun i hi q => ?_)⟩
  · rcases b k q with r | r
    · exact r.1
    · exact .inr (Nat.le_trans hk.size r)
  · rcases q.1 with r | r
    · exact r
    · omega
theorem SP.kept {w W W1 : World} {B g : Nat} {F : Nat → Prop} {m1 : Md} (h1 : SP W W1 B g (tight w W B F) m1) {k : Nat} {c : Array Value} {t : TypeId} (hc : W.heap[k]? = some (Obj.cells c t (0, 0))) (ht : ¬ ownKind t) : W1.heap[k]? = some (Obj.cells c t (0, 0)) := by
  obtain ⟨F2, _, _, kp⟩ := h1
  rw [kp.block k (Array.getElem?_eq_some_iff.1 hc).1 (fun q => by
    obtain ⟨_, ⟨c', t', hc', ht'⟩, _⟩ := q
    rw [hc] at hc'; simp at hc'; exact ht (hc'.2 ▸ ht'))]
  exact hc
theorem SP.sr {w W : World} {B g : Nat} {F : Nat → Prop} {m : Md} (h : SP w W B g F m) : ∃ v0 v1 v2 v3 ls, SR W B g m v0 v1 v2 v3 ls := by
  obtain ⟨F1, ⟨v0, v1, v2, v3, ls, hs, _, _⟩, _, _⟩ := h
  exact ⟨v0, v1, v2, v3, ls, hs⟩
theorem SP.size {w W : World} {B g : Nat} {F : Nat → Prop} {m : Md} (h : SP w W B g F m) : w.heap.size ≤ W.heap.size := by
  obtain ⟨_, _, _, kp⟩ := h; exact kp.size

/-- Inside a method: the call's copy at w.heap.size. -/
structure Fr (w W : World) (B g : Nat) (F : Nat → Prop) (m : Md) (c : Cl) : Prop where
  sp : SP w W B g F m
  box : W.heap[w.heap.size]? = some (.cells c.arr 79 (0, 0))
/-- .. and the answer's block behind it. -/
structure FrA (w W : World) (B g : Nat) (F : Nat → Prop) (m : Md) (c : Cl) : Prop extends Fr w W B g F m c where
  ans : W.heap[w.heap.size + 1]? = some sAnsBlock

section
variable {w W : World} {B g : Nat} {F : Nat → Prop} {m : Md} {c : Cl}
theorem Fr.start (h : ST w B g F m) (c : Cl) : Fr w (w.alloc (.cells c.arr 79)) B g F m c := ⟨(SP.refl h).alloc _, heap_alloc_new w _⟩
theorem FrA.start (h : ST w B g F m) (c : Cl) : FrA w ((w.alloc (.cells c.arr 79)).alloc sAnsBlock) B g F m c :=
  ⟨⟨((SP.refl h).alloc _).alloc _, heap_alloc_keep (heap_alloc_new w _)⟩, by have := heap_alloc_new (w.alloc (.cells c.arr 79)) sAnsBlock; simpa using this⟩
theorem Fr.drewN (h : Fr w W B g F m c) (n : Nat) : Fr w (W.drewN n) B g F m c := ⟨h.sp.trans (fun _ a _ => SP.of_below a (Below.drewN' (Below.refl _ _) n)), h.box⟩
theorem FrA.drewN (h : FrA w W B g F m c) (n : Nat) : FrA w (W.drewN n) B g F m c := ⟨h.toFr.drewN n, h.ans⟩
theorem Fr.next {W1 : World} {m1 : Md} (h : Fr w W B g F m c) (h1 : SP W W1 B g (tight w W B F) m1) : Fr w W1 B g F m1 c := ⟨h.sp.next h1, SP.kept h1 h.box (by unfold ownKind; decide)⟩
theorem FrA.next {W1 : World} {m1 : Md} (h : FrA w W B g F m c) (h1 : SP W W1 B g (tight w W B F) m1) : FrA w W1 B g F m1 c := ⟨h.toFr.next h1, SP.kept h1 h.ans (by unfold ownKind; decide)⟩
theorem Fr.cell (h : Fr w W B g F m c) {j : Nat} {v : Value} (hv : c.cells[j]? = some v) : W.cell? ⟨w.heap.size, j, none⟩ = some v := cell_of_heap h.box (by rw [← Array.getElem?_toList]; exact hv)
theorem FrA.acells (h : FrA w W B g F m c) : (∀ o, W.frozen? ⟨w.heap.size + 1, o, none⟩ = false) ∧ W.cell? ⟨w.heap.size + 1, 0, none⟩ = some (.int .i64 0) ∧ W.cell? ⟨w.heap.size + 1, 1, none⟩ = some (.int .i64 0) ∧ W.cell? ⟨w.heap.size + 1, 2, none⟩ = some (.int .i64 0) ∧
    W.cell? ⟨w.heap.size + 1, 3, none⟩ = some (.int .i64 0) ∧ W.cell? ⟨w.heap.size + 1, 4, none⟩ = some (.string ⟨#[]⟩) :=
  ⟨fun _ => free_of_heap h.ans, cell_of_heap h.ans rfl, cell_of_heap h.ans rfl, cell_of_heap h.ans rfl, cell_of_heap h.ans rfl, cell_of_heap h.ans rfl⟩
theorem SP.put5 {k : Nat} {d : Array Value} (h : SP w W B g F m) (hk : W.heap[k]? = some (Obj.cells d 84 (0, 0))) (hlt : w.heap.size ≤ k) (a : An) : SP w (put5 W k a) B g F m := by
  have st : ∀ {V : World} {d : Array Value} (o : Nat) (v : Value), SP w V B g F m → V.heap[k]? = some (Obj.cells d 84 (0, 0)) → SP w (V.setCell ⟨k, o, none⟩ v) B g F m :=
    fun o v hI hd => hI.setNew (a := ⟨k, o, none⟩) hd hlt v (by decide) (by decide) (by decide) (by decide) (by decide)
  unfold Bead.put5
  have h1 := st 0 (.int .i64 a.elem) h hk
  have k1 := heap_set (o := 0) (v := .int .i64 a.elem) hk
  have h2 := st 1 (.int .i64 a.n) h1 k1
  have k2 := heap_set (o := 1) (v := .int .i64 a.n) k1
  have h3 := st 2 (.int .i64 a.v.kind) h2 k2
  have k3 := heap_set (o := 2) (v := .int .i64 a.v.kind) k2
  have h4 := st 3 (.int .i64 a.v.n) h3 k3
  have k4 := heap_set (o := 3) (v := .int .i64 a.v.n) k3
  exact st 4 (.string a.v.s) h4 k4
theorem FrA.fin (h : FrA w W B g F m c) (a : An) : SP w (put5 W (w.heap.size + 1) a) B g F m := h.sp.put5 h.ans (by omega) a
end

set_option maxHeartbeats 1000000 in
theorem insert_c {w : World} {B g : Nat} {F : Nat → Prop} {m : Md} (h : ST w B g F m) (hw : WF m) {op other elem : Int} {v : Vl} {i l n k b : Nat} (hb : b ≤ 1) (hi : i < m.len) (hl : m.isL l = true) (hn : n < m.len) (hr : m.ret n = some k) (hlen : m.len ≤ 4611686018427387904) (hcnt : m.cnt ≤ 999999) (hsz : (m.seq l).length ≤ 1000000) :
    Calls Try.prog 98 #[.pointer (some ⟨g, 0, none⟩), .int .i64 i, Cl.agg' ⟨op, l, other, elem, n, v⟩, .int .i64 b] w fun r w' =>
      r = .returned (m.insert i ⟨op, l, other, elem, n, v⟩ b).2.agg' ∧ SP w w' B g F (m.insert i ⟨op, l, other, elem, n, v⟩ b).1 := by
  have hll := hw.isl l hl
  have F0 := FrA.start h ⟨op, l, other, elem, n, v⟩
  obtain ⟨v0, v1, v2, v3, ls, hs⟩ := F0.sp.sr
  have c2 := hs.c2
  obtain ⟨b2, cap2, rfl, g2, _⟩ := hs.at2 hn
  rw [hr, optI_some] at g2
  have AT := fun n => Lib.hid (at_c (hs.drewN n) hll k hlen (by omega) (hw.nodup l))
  have FA := Lib.hid F0
  have HW := Lib.hid hw
  unfold Cl.agg'
  simp only [Cl.arr, sAnsBlock] at c2 g2 AT
  by_cases hm : k ∈ m.seq l
  · have hk := List.idxOf_lt_length_of_mem hm
    rw [idx_mem hm] at AT
    have e1 : m.insert i ⟨op, l, other, elem, n, v⟩ b = ((m.make v (some l)).put l ((m.seq l).idxOf k + b) m.cnt).answer i (some m.cnt) := by simp [Md.insert, hr, hm]
    rw [e1]
    have dk : ∀ j : Nat, decide (((j : Nat) : Int) < 0) = false := fun j => by simp <;> omega
    have dk := dk ((m.seq l).idxOf k)
    clear h hw hs F0 e1 hr hm
    go_enter Try.func98, Try.ntmps98
    go_wp2
    go_quiet ((go_at_call 94; exact Calls.quiet_of_same (AT _).out))
    go_wp2_with fail
    refine (make_c (FA.out.drewN _).sp.st v (some l) (HW.out.out m.cnt (Nat.le_refl _)).2.1 (HW.out.out m.cnt (Nat.le_refl _)).2.2 (by omega)).mono ?_
    rintro r w1 ⟨rfl, S1⟩
    have F1 := Lib.hid ((FA.out.drewN _).next S1)
    have y1 := F1.out.cell (j := 1) rfl
    clear S1
    go_wp2_with fail
    rw [show ((List.idxOf k (m.seq l) : Nat) : Int) + (b : Nat) = ((List.idxOf k (m.seq l) + b : Nat) : Int) by omega]
    refine (put_c (l := l) (k := (m.seq l).idxOf k + b) (e := m.cnt) F1.out.sp.st hll (by show _ ≤ (m.seq l).length; omega) hlen hsz).mono ?_
    rintro r w2 ⟨rfl, S2⟩
    have F2 := Lib.hid (F1.out.next S2)
    clear S2
    go_wp2_with fail
    refine (answer_some (i := i) (e := m.cnt) F2.out.sp.st hi (Nat.lt_succ_self m.cnt) hlen (by show m.cnt + 1 ≤ _; omega)).mono ?_
    rintro r w3 ⟨rfl, S3⟩
    have F3 := Lib.hid (F2.out.next S3)
    clear S3
    obtain ⟨f5, d0, d1, d2, d3, d4⟩ := F3.out.acells
    generalize hq : Md.num _ _ _ = q
    have HQ := Lib.hid hq
    clear hq
    unfold An.agg'
    go_wp2
    refine bodyPost_ret (v := q.agg') ?_ rfl ⟨?_, F3.out.fin q⟩
    · simp [results, Try.results98, go_sem, An.agg', f5, d0, d1, d2, d3, d4]
    · rw [← HQ.out]; rfl
  · rw [idx_not hm] at AT
    have e1 : m.insert i ⟨op, l, other, elem, n, v⟩ b = (m, An.no) := by simp [Md.insert, hr, hm]
    rw [e1]
    have H := Lib.hid h
    clear h hw hs F0 e1 hr hm
    go_enter Try.func98, Try.ntmps98
    go_wp2
    go_quiet ((go_at_call 94; exact Calls.quiet_of_same (AT _).out))
    go_wp2
    refine bodyPost_ret (v := An.no.agg') ?_ rfl ⟨rfl, (FA.out.drewN _).fin An.no⟩
    simp [results, Try.results98, go_sem, An.agg', An.no, Vl.zero]
    rfl

theorem take_seq (m : Md) (l e : Nat) : (m.take l e).seq l = without (m.seq l) e := by simp [Md.take, Md.setSeq, upd_same, without]

end Bead
end Go.Proofs.Ytidnmanljdadaaa
