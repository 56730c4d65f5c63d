/- The reference's method copies (printed by gen_copies.py). -/
import Derived.Test.YtidnmanljdadaaaSpec9
import Derived.Test.YtidnmanljdadaaaLast2
set_option linter.all false
namespace Go.Proofs.Ytidnmanljdadaaa
open Go.RowKit
namespace Bead
set_option maxRecDepth 100000

theorem copy_succ {m : Md} (hw : WF m) (l : Nat) {xs : List Nat} {j : Nat} (hj : j < xs.length) : (m.copy l (xs.take j)).make (m.val xs[j]) (some l) = m.copy l (xs.take (j + 1)) := by
  have l1 : (xs.take j).length = j := by simp; omega
  have l2 : (xs.take (j + 1)).length = j + 1 := by simp; omega
  simp only [Md.make, Md.copy, l1, l2, Md.mk.injEq, true_and, and_true]
  refine ⟨by omega, ?_, ?_⟩
  · funext e
    by_cases q : e = m.cnt + j
    · subst q
      rw [upd_same, if_pos (by omega), hw.can]
      rw [show m.cnt + j - m.cnt = j by omega, List.getD_eq_getElem?_getD, List.getElem?_take, if_pos (by omega), List.getElem?_eq_getElem hj]; rfl
    · rw [upd_other _ _ q]
      by_cases r : m.cnt ≤ e ∧ e < m.cnt + j
      · rw [if_pos r, if_pos (by omega), List.getD_eq_getElem?_getD, List.getD_eq_getElem?_getD, List.getElem?_take, if_pos (by omega), List.getElem?_take, if_pos (by omega)]
      · rw [if_neg r, if_neg (by omega)]
  · funext e
    by_cases q : e = m.cnt + j
    · subst q; rw [upd_same, if_pos (by omega)]
    · rw [upd_other _ _ q]
      by_cases r : m.cnt ≤ e ∧ e < m.cnt + j
      · rw [if_pos r, if_pos (by omega)]
      · rw [if_neg r, if_neg (by omega)]
theorem copy_nil (m : Md) (l : Nat) : m.copy l [] = m := by
  simp only [Md.copy, List.length_nil, Nat.add_zero]
  have : ∀ e, ¬ (m.cnt ≤ e ∧ e < m.cnt) := fun e => by omega
  simp only [this, if_false]

/-- What copies has done after j rounds. -/
structure CopyAt (w wr : World) (B g : Nat) (F : Nat → Prop) (m : Md) (c : Cl) (v0 v1 v2 : Value) (ls : Nat → Value) (l : Nat) (xs : List Nat) (j : Nat) (fresh : Value) : Prop where
  sr : ∃ v3, SR wr B g (m.copy l (xs.take j)) v0 v1 v2 v3 ls ∧ ∀ k, v3.ownBlock = some k → F k ∨ w.heap.size ≤ k
  box : wr.heap[w.heap.size]? = some (.cells c.arr 79 (0, 0))
  own : wr.ownsRow w.heap.size 3 1 fresh j (ints (List.range' m.cnt j))
  nil : fresh = .slice none 0 0 ∨ 0 < j
  keeps : Keeps F w wr

theorem Keeps.drewN {S : Nat → Prop} {w w' : World} (h : Keeps S w w') (n : Nat) : Keeps S w (w'.drewN n) := ⟨h.os, h.tape, h.output, h.size, h.block⟩

theorem Made.undrew {w w' : World} {B g : Nat} {m : Md} {v0 v1 v2 v3 : Value} {ls : Nat → Value} (h : Made w.drew w' B g m v0 v1 v2 v3 ls) : Made w w' B g m v0 v1 v2 v3 ls := by
  obtain ⟨v3', a, b, k⟩ := h
  exact ⟨v3', a, b, ⟨k.os, k.tape, k.output, k.size, k.block⟩⟩

theorem cond_R {S : World → Prop} {R T : List Nat} {j : Nat} {w w' : World} (hT : j ∉ T) (hR : j ∈ R) (h : S w') : cond S R T j w w' := by
  unfold cond; rw [if_neg hT, if_pos hR]; exact h
theorem grown_undrew {w w' : World} {row : Option Nat} (h : w.drew.grownBy w' row) : w.grownBy w' row := ⟨h.os, h.tape, h.output, h.size, h.block⟩
theorem grown_same (w : World) : w.grownBy w.drew none := ⟨rfl, rfl, rfl, Nat.le_refl _, fun _ _ _ => rfl⟩
theorem own_nil_len {w : World} {B : Nat} {e : TypeId} {sz n : Nat} {xs : List Value} (h : w.ownsRow B e sz (.slice none 0 0) n xs) : n = 0 := by
  rcases h.2 with ⟨_, q⟩ | ⟨g, cap, cur, q, _⟩
  · exact q
  · simp at q

section
variable {w wr W : World} {B g : Nat} {F : Nat → Prop} {m : Md} {c : Cl} {v0 v1 v2 v3 : Value} {ls : Nat → Value} {l j : Nat} {xs : List Nat} {fresh : Value}
/-- A row of the call's own is none of the model's. -/
theorem far_row (h0 : SR w B g m v0 v1 v2 v3 ls) {m' : Md} {v3' : Value} (h : SR wr B g m' v0 v1 v2 v3' ls) (hlen : m'.len = m.len) {n : Nat} {ys : List Value} {x : Value} (ho : wr.ownsRow w.heap.size 3 1 x n ys) {k : Nat} (hk : Foot g v0 v1 v2 v3' k ∨ ∃ i, i < m'.len ∧ (ls i).ownBlock = some k) : ¬ x.ownBlock = some k := by
  intro q
  have hlt := (ho.lt k q).1
  obtain ⟨d, hd⟩ := own_kind ho k q
  rcases hk with (r | r | r | r | r) | ⟨i, hi, r⟩
  · have := h.pc; rw [← r, hd] at this; simp at this
  · obtain ⟨d', hd'⟩ := own_kind h.r0 _ r; rw [hd] at hd'; simp at hd'
  · obtain ⟨d', hd'⟩ := own_kind h.r1 _ r; rw [hd] at hd'; simp at hd'
  · have := (h0.lt (.inr (.inr (.inr (.inl r))))).2; omega
  · obtain ⟨d', hd'⟩ := own_kind h.r3 _ r; rw [hd] at hd'; simp at hd'
  · have := (h0.ll i (hlen ▸ hi)).lt k r; omega
theorem CopyAt.start (hs : SR w B g m v0 v1 v2 v3 ls) (hf : ∀ k, Foot g v0 v1 v2 v3 k → F k) (c : Cl) (l : Nat) (xs : List Nat) (n : Nat) : CopyAt w ((w.alloc (.cells c.arr 79)).drewN n) B g F m c v0 v1 v2 ls l xs 0 (.slice none 0 0) :=
  ⟨⟨v3, by rw [List.take_zero, copy_nil]; exact (hs.alloc _).drewN n, fun k q => .inl (hf k (.inr (.inr (.inr (.inr q)))))⟩, heap_alloc_new w _, World.ownsRow_nil _ _ _ _, .inl rfl, ((Keeps.refl F w).alloc _).drewN n⟩
/-- A round: an element is made, and the append. -/
theorem CopyAt.next {w1 w2 : World} {x' : Value} {o : Obj} {v3' : Value} (h0 : SR w B g m v0 v1 v2 v3 ls) (hf : ∀ k, Foot g v0 v1 v2 v3 k → F k) (hw : WF m) (hj : j < xs.length) (h : CopyAt w wr B g F m c v0 v1 v2 ls l xs j fresh) (h3 : SR wr B g (m.copy l (xs.take j)) v0 v1 v2 v3' ls) (h3F : ∀ k, v3'.ownBlock = some k → F k ∨ w.heap.size ≤ k)
    (hm : Made wr w1 B g ((m.copy l (xs.take j)).make (m.val xs[j]) (some l)) v0 v1 v2 v3' ls)
    (ho : w2.ownsRow w.heap.size 3 1 x' (j + 1) (ints (List.range' m.cnt j) ++ [.int .i64 (m.cnt + j : Nat)])) (hg : (w1.alloc o).grownBy w2 fresh.ownBlock) : CopyAt w w2 B g F m c v0 v1 v2 ls l xs (j + 1) x' := by
  rw [copy_succ hw l hj] at hm
  obtain ⟨v3'', hs1, hn, hk⟩ := hm
  have hsw : w.heap.size ≤ wr.heap.size := h.keeps.size
  have hown1 : w1.ownsRow w.heap.size 3 1 fresh j (ints (List.range' m.cnt j)) := own_of_blocks h.own (fun k q => hk.block k (h.own.lt k q).2 (fun r => by
    obtain ⟨d, hd⟩ := own_kind h.own k q
    rcases r with r | r
    · have := h3.pc; rw [← r, hd] at this; simp at this
    · obtain ⟨d', hd'⟩ := own_kind h3.r3 _ r; rw [hd] at hd'; simp at hd'))
  have hsa := hs1.alloc o
  refine ⟨⟨v3'', hsa.of_blocks (fun k q => hg.block k (hsa.lt' q) (fun r => far_row h0 hsa rfl (hown1.alloc o) q r.symm)), fun k q => ?_⟩, ?_, ?_, .inr (Nat.succ_pos _), ?_⟩
  · rcases hn k q with r | r
    · exact h3F k r
    · exact .inr (Nat.le_trans hsw r)
  · have hb1 : w1.heap[w.heap.size]? = some (.cells c.arr 79 (0, 0)) := by
      rw [hk.block _ (Array.getElem?_eq_some_iff.1 h.box).1 (fun r => by
        rcases r with r | r
        · have := h3.pc; rw [← r, h.box] at this; simp at this
        · obtain ⟨d', hd'⟩ := own_kind h3.r3 _ r; rw [h.box] at hd'; simp at hd')]
      exact h.box
    have hb2 := heap_alloc_keep (o := o) hb1
    rw [hg.block _ (Array.getElem?_eq_some_iff.1 hb2).1 (fun r => by
      obtain ⟨d', hd'⟩ := own_kind (hown1.alloc o) _ r.symm; rw [hb2] at hd'; simp at hd')]
    exact hb2
  · rw [List.range'_1_concat, ints_append]; exact ho
  · refine ((h.keeps.then hk (fun i hi q => ?_)).alloc o).grown hg (fun k q hk' => ?_)
    · rcases q with rfl | q
      · exact hf _ (.inl rfl)
      · rcases h3F i q with r | r
        · exact r
        · omega
    · have := (hown1.lt k q).1; omega
/-- The end: a list's row is replaced. -/
theorem CopyAt.fin {W : World} {x : Value} {b1 cap : Nat} {s : List Nat} (h0 : SR w B g m v0 (.slice (some ⟨b1, 0, none⟩) m.len cap) v2 v3 ls) (hf : ∀ k, Foot g v0 (.slice (some ⟨b1, 0, none⟩) m.len cap) v2 v3 k → F k) (hl : l < m.len)
    (h : CopyAt w wr B g F m c v0 (.slice (some ⟨b1, 0, none⟩) m.len cap) v2 ls l xs j fresh) {row : Option Nat} (hg : wr.grownBy W row) (hrow : row = none ∨ row = fresh.ownBlock) (hx : IRow W x s) (hd : ∀ b, x.ownBlock = some b → v2.ownBlock ≠ some b) : SP w (W.setCell ⟨b1, l, none⟩ x) B g F ((m.copy l (xs.take j)).setSeq l s) := by
  obtain ⟨v3', hs, h3F⟩ := h.sr
  have hsW : SR W B g (m.copy l (xs.take j)) v0 (.slice (some ⟨b1, 0, none⟩) m.len cap) v2 v3' ls := hs.of_blocks (fun k q => hg.block k (hs.lt' q) (fun r => by
    rcases hrow with rfl | rfl
    · simp at r
    · exact far_row h0 hs rfl h.own q r.symm))
  have hr := hsW.set1 (l := l) hl hx hd rfl
  refine ⟨Foot g v0 (.slice (some ⟨b1, 0, none⟩) m.len cap) v2 v3', ⟨_, _, _, _, _, hr, fun _ q => q, fun k q => hr.lt q⟩, ?_, ?_⟩
  · rintro k (q | q | q | q | q)
    · exact .inl (hf k (.inl q))
    · exact .inl (hf k (.inr (.inl q)))
    · exact .inl (hf k (.inr (.inr (.inl q))))
    · exact .inl (hf k (.inr (.inr (.inr (.inl q)))))
    · exact h3F k q
  · refine (h.keeps.grown hg (fun k q hk => ?_)).setCell (p := ⟨b1, l, none⟩) (fun _ => hf b1 (.inr (.inr (.inl rfl)))) _
    rcases hrow with rfl | rfl
    · simp at q
    · have := (h.own.lt k q).1; omega
theorem CopyAt.cell (h : CopyAt w wr B g F m c v0 v1 v2 ls l xs j fresh) {t : Nat} {v : Value} (hv : c.cells[t]? = some v) : wr.cell? ⟨w.heap.size, t, none⟩ = some v := cell_of_heap h.box (by rw [← Array.getElem?_toList]; exact hv)
end

/-- append onto a slice without room. -/
theorem wp_app_full {P : Program} {w : World} {o : Oper} {a : Act} {K : Act → World → Prop} {Q : Exit → Act → World → Prop} (s x : Operand) (t : TypeId)
    (ho : o.op = .call { callee := .builtin .append, args := #[s, x], argTypes := #[t, t] })
    (e : TypeId) (z : Value) (size bytes : Nat) (ht : P.underlying t = some (.slice e)) (hinfo : (P.info? e).map (fun i => (i.zero, i.size, i.bytes)) = some (some z, size, bytes)) (hzs : z.cells.size = size) (hsz : 0 < size)
    (b n : Nat) (xs : List Value) (hs : a.eval s = .slice (some ⟨b, 0, none⟩) n n) (hxl : xs.length = n * size) (hxs : Sl w (.slice (some ⟨b, 0, none⟩) n n) n xs)
    (ad : Addr) (m c : Nat) (news : List Value) (hx : a.eval x = .slice (some ad) m c) (hsl : Sl w (.slice (some ad) m c) m news) (hl : news.length = m * size) (hm : 0 < m) (hbytes : (n + m) * bytes ≤ 140737488355328) (hb1 : 1 ≤ bytes)
    (h : ∀ v' w', w'.ownsRow w.heap.size e size v' (n + m) (xs ++ news) → w.grownBy w' none → K (a.put o.dst v') w') : o.wp P a w K Q := by
  obtain ⟨i, hi, hz0, hz1, hz2⟩ := info_parts hinfo
  have hle : n + m ≤ (n + m) * bytes := Nat.le_mul_of_pos_right _ hb1
  have h63 : n + m ≤ maxLen := by unfold maxLen; omega
  have cells : ∀ {ad : Addr} {m c : Nat} {ys : List Value}, Sl w (.slice (some ad) m c) m ys → ∀ j u, ys[j]? = some u → w.cell? (ad.add j) = some u := by
    intro ad m c ys hsl j u hu
    obtain ⟨a', cap', q, hc⟩ := hsl
    simp only [Value.slice.injEq] at q
    obtain ⟨b', off, hb, hc'⟩ := hc (by intro r; subst r; simp at hu)
    rw [hb] at q
    obtain rfl : ad = ⟨b', off, none⟩ := by simpa using q.1
    have := hc' j u hu
    unfold Addr.add
    split
    · rename_i r; subst r; exact this
    · exact this
  obtain ⟨v', w', hr, h2, h3⟩ := run_append_arg_grows (P := P) w t o.type e i z size bytes ht hi hz0 hz1 hz2 hzs hsz ⟨b, 0, none⟩ n n xs hxl (cells hxs) ad m c news hl (cells hsl) (by omega) h63 hbytes
  unfold Oper.wp execOp
  simp only [ho, resolve, invoke, builtin, Sem.run_bind, Sem.run_pure, Result.andThen_ok, List.map_toArray, List.map_cons, List.map_nil, hs, hx, hr]
  exact h v' w' h2 h3
/-- append of nothing. -/
theorem wp_app_nil {P : Program} {w : World} {o : Oper} {a : Act} {K : Act → World → Prop} {Q : Exit → Act → World → Prop} (s x : Operand) (t : TypeId)
    (ho : o.op = .call { callee := .builtin .append, args := #[s, x], argTypes := #[t, t] })
    (e : TypeId) (z : Value) (size bytes : Nat) (ht : P.underlying t = some (.slice e)) (hinfo : (P.info? e).map (fun i => (i.zero, i.size, i.bytes)) = some (some z, size, bytes))
    (b n : Nat) (hs : a.eval s = .slice (some ⟨b, 0, none⟩) n n) (hx : a.eval x = .slice none 0 0) (h : K (a.put o.dst (.slice (some ⟨b, 0, none⟩) n n)) w) : o.wp P a w K Q := by
  obtain ⟨i, hi, hz0, hz1, hz2⟩ := info_parts hinfo
  have hr : (Builtin.append_ #[t, t] o.type #[.slice (some ⟨b, 0, none⟩) n n, .slice none 0 0]).run P w = .ok (.slice (some ⟨b, 0, none⟩) n n) w := by
    simp [Builtin.append_, run_underlying ht, sizeOf, typeInfo, hi, Builtin.lenOf, Builtin.firstCells, storeCells]
  unfold Oper.wp execOp
  simp only [ho, resolve, invoke, builtin, Sem.run_bind, Sem.run_pure, Result.andThen_ok, List.map_toArray, List.map_cons, List.map_nil, hs, hx, hr]
  exact h

set_option maxHeartbeats 2000000 in
theorem copies_12 {w : World} {B g : Nat} {F : Nat → Prop} {m : Md} (h : ST w B g F m) (hw : WF m) {elem mark : Int} {v : Vl} {l o : Nat} (hl : m.isL l = true) (ho : m.isL o = true) (hlen : m.len ≤ 4611686018427387904) (hroom : m.cnt + (m.seq o).length ≤ 500) (hsz : (m.seq l).length ≤ 1000000) :
    Calls Try.prog 101 #[.pointer (some ⟨g, 0, none⟩), Cl.agg' ⟨12, l, o, elem, mark, v⟩] w fun r w' => r = .returned (.tuple #[]) ∧ SP w w' B g F (m.copies ⟨12, l, o, elem, mark, v⟩) := by
  have hll := hw.isl l hl
  have hoo := hw.isl o ho
  have hxs : ∀ x ∈ m.seq o, x < m.cnt := fun x q => hw.lt q
  obtain ⟨v0, v1, v2, v3, ls, hs, hf, hF⟩ := h
  have c1 := fun z => (hs.alloc z).c1
  obtain ⟨b1, cap1, rfl, _, _⟩ := hs.at1 hll
  have co : ∀ z, (w.alloc z).cell? ⟨b1, o, none⟩ = some (ls o) := fun z => by
    obtain ⟨b, cap, q, c, _⟩ := (hs.alloc z).at1 hoo; simp at q; obtain ⟨rfl, _⟩ := q; exact c
  have H := Lib.hid hs; have HF := Lib.hid hf; have HW := Lib.hid hw; have HX := Lib.hid hxs
  have START := fun n => Lib.hid (CopyAt.start hs hf ⟨12, l, o, elem, mark, v⟩ l (m.seq o) n)
  obtain ⟨ao, capo, hlo⟩ := (hs.ll o hoo).form
  have HLO := Lib.hid hlo
  have eC : m.copies ⟨12, l, o, elem, mark, v⟩ = (m.copy l (m.seq o)).setSeq l (m.seq l ++ List.range' m.cnt (m.seq o).length) := by simp [Md.copies]
  rw [eC]
  rw [hlo] at co
  unfold Cl.agg'
  simp only [Cl.arr] at START
  clear hs hf hF hw hxs eC hlo
  go_enter Try.func101, Try.ntmps101
  go_wp2
  go_quiet (fail)
  go_wp2_with fail
  go_loopg [4, 16] (m.seq o).length (fun n fresh k wr => ∃ j : Nat, j + n = (m.seq o).length ∧ k = .int .i64 j ∧ CopyAt w wr B g F m ⟨12, l, o, elem, mark, v⟩ v0 (.slice (some ⟨b1, 0, none⟩) m.len cap1) v2 ls l (m.seq o) j fresh)
  case atStart => exact ⟨0, by omega, rfl, (START _).out⟩
  case round =>
    clear START c1 co
    obtain ⟨j, hj, rfl, hC⟩ := hrel
    by_cases hk0 : gk = 0
    · subst hk0
      obtain rfl : j = (m.seq o).length := by omega
      clear hj
      have y0 := hC.cell (t := 0) rfl
      have y1 := hC.cell (t := 1) rfl
      obtain ⟨v3', hs3, h3F⟩ := hC.sr
      have c1 := hs3.c1
      have cl : wr.cell? ⟨b1, l, none⟩ = some (ls l) := by
        obtain ⟨b, cap, q, c, _⟩ := hs3.at1 hll; simp at q; obtain ⟨rfl, _⟩ := q; exact c
      have fz : wr.frozen? ⟨b1, l, none⟩ = false := hs3.r1.frozenAt l
      have hr : IRow wr (ls l) (m.seq l) := hs3.ll l hll
      have C := Lib.hid hC; have S3 := Lib.hid hs3
      have szw := hC.keeps.size
      have hv2 : ∀ b, v2.ownBlock = some b → b < w.heap.size := fun b q => (H.out.lt (.inr (.inr (.inr (.inl q))))).2
      have HV2 := Lib.hid hv2
      have hnb : ∀ k, u4.ownBlock = some k → ¬ (k = g ∨ k = b1 ∨ k = w.heap.size) := by
        intro k q
        obtain ⟨d, hd⟩ := own_kind hC.own k q
        rintro (r | r | r)
        · have := hs3.pc; rw [← r, hd] at this; simp at this
        · obtain ⟨d', hd'⟩ := own_kind hs3.r1 b1 rfl; rw [← r, hd] at hd'; simp at hd'
        · have := hC.box; rw [← r, hd] at this; simp at this
      have HNB := Lib.hid hnb
      have TL : (m.seq o).take (m.seq o).length = m.seq o := List.take_length
      have HTL := Lib.hid TL
      have lg : g < wr.heap.size := (hs3.lt (.inl rfl)).2
      have lb1 : b1 < wr.heap.size := World.block_lt_of_cell? wr _ cl
      have lN : w.heap.size < wr.heap.size := (Array.getElem?_eq_some_iff.1 hC.box).1
      rcases hr with ⟨hx, hn⟩ | ⟨b, cap, c, hx, hb, hc1, hc2, hc3, hc4⟩
      · have hcap : u4 = .slice none (m.seq o).length 0 ∨ u4.ownBlock ≠ none ∨ (m.seq o).length ≠ 0 := by
          rcases hC.nil with q | q
          · have := hC.own; rw [q] at this; have := own_nil_len this; left; rw [q, this]
          · right; right; omega
        have HN : Hid (m.seq l = []) := hn
        rw [hx] at cl
        obtain ⟨a4, cap4, hu4⟩ := own_len hC.own
        subst hu4
        clear hC hs3 h3F hx hn hnb hv2 TL
        go_wp2_with fail
        refine wp_region_T (fun w' => w'.cell? ⟨g, 1, none⟩ = some (.slice (some ⟨b1, 0, none⟩) m.len cap1) ∧ w'.cell? ⟨b1, l, none⟩ = some (.slice none 0 0) ∧ w'.cell? ⟨w.heap.size, 1, none⟩ = some (.int .i64 (l : Nat))) [34] [36] run_mixed ?_
        simp only [List.size_toArray, List.length_cons, List.length_nil]
        have HS : wr.drew.cell? ⟨g, 1, none⟩ = some (.slice (some ⟨b1, 0, none⟩) m.len cap1) ∧ wr.drew.cell? ⟨b1, l, none⟩ = some (.slice none 0 0) ∧ wr.drew.cell? ⟨w.heap.size, 1, none⟩ = some (.int .i64 (l : Nat)) := ⟨c1, cl, y1⟩
        refine wpT_take (i := 0) (v := ?vc0) rfl (by kernel_rfl) (fun _ _ _ h => h) rfl ?yc0 ?rc0
        case yc0 => ((intro wz; go_simp); try with_reducible rfl)
        try simp only [Act.put, List.setIfInBounds_toArray, List.set_cons_zero, List.set_cons_succ]
        refine wpT_take (i := 1) (v := ?vc1) rfl (by kernel_rfl) (fun _ _ _ h => h) rfl ?yc1 ?rc1
        case yc1 => ((intro wz; go_simp); try with_reducible rfl)
        try simp only [Act.put, List.setIfInBounds_toArray, List.set_cons_zero, List.set_cons_succ]
        refine wpT_take (i := 2) (v := ?vc2) rfl (by kernel_rfl) (fun _ _ _ h => h) rfl ?yc2 ?rc2
        case yc2 => ((intro wz; go_simp); try with_reducible rfl)
        try simp only [Act.put, List.setIfInBounds_toArray, List.set_cons_zero, List.set_cons_succ]
        refine wpT_load (i := 3) (v := ?vc3) rfl (by kernel_rfl) (fun _ _ _ h => h) rfl ?yc3 HS ?rc3
        case yc3 => ((intro wz hSw; (try dsimp only at hSw); go_split_ands; go_simp); try with_reducible rfl)
        try simp only [Act.put, List.setIfInBounds_toArray, List.set_cons_zero, List.set_cons_succ]
        refine wpT_take (i := 4) (v := ?vc4) rfl (by kernel_rfl) (fun _ _ _ h => h) rfl ?yc4 ?rc4
        case yc4 => ((intro wz; go_simp); try with_reducible rfl)
        try simp only [Act.put, List.setIfInBounds_toArray, List.set_cons_zero, List.set_cons_succ]
        refine wpT_load (i := 5) (v := ?vc5) rfl (by kernel_rfl) (fun _ _ _ h => h) rfl ?yc5 HS ?rc5
        case yc5 => ((intro wz hSw; (try dsimp only at hSw); go_split_ands; go_simp); try with_reducible rfl)
        try simp only [Act.put, List.setIfInBounds_toArray, List.set_cons_zero, List.set_cons_succ]
        refine wpT_take (i := 6) (v := ?vc6) rfl (by kernel_rfl) (fun _ _ _ h => h) rfl ?yc6 ?rc6
        case yc6 => ((intro wz; go_simp); try with_reducible rfl)
        try simp only [Act.put, List.setIfInBounds_toArray, List.set_cons_zero, List.set_cons_succ]
        refine wpT_take (i := 7) (v := ?vc7) rfl (by kernel_rfl) (fun _ _ _ h => h) rfl ?yc7 ?rc7
        case yc7 => ((intro wz; go_simp); try with_reducible rfl)
        try simp only [Act.put, List.setIfInBounds_toArray, List.set_cons_zero, List.set_cons_succ]
        refine wpT_take (i := 8) (v := ?vc8) rfl (by kernel_rfl) (fun _ _ _ h => h) rfl ?yc8 ?rc8
        case yc8 => ((intro wz; go_simp); try with_reducible rfl)
        try simp only [Act.put, List.setIfInBounds_toArray, List.set_cons_zero, List.set_cons_succ]
        refine wpT_load (i := 9) (v := ?vc9) rfl (by kernel_rfl) (fun _ _ _ h => h) rfl ?yc9 HS ?rc9
        case yc9 => ((intro wz hSw; (try dsimp only at hSw); go_split_ands; go_simp); try with_reducible rfl)
        try simp only [Act.put, List.setIfInBounds_toArray, List.set_cons_zero, List.set_cons_succ]
        refine wpT_take (i := 10) (v := ?vc10) rfl (by kernel_rfl) (fun _ _ _ h => h) rfl ?yc10 ?rc10
        case yc10 => ((intro wz; go_simp); try with_reducible rfl)
        try simp only [Act.put, List.setIfInBounds_toArray, List.set_cons_zero, List.set_cons_succ]
        refine wpT_load (i := 11) (v := ?vc11) rfl (by kernel_rfl) (fun _ _ _ h => h) rfl ?yc11 HS ?rc11
        case yc11 => ((intro wz hSw; (try dsimp only at hSw); go_split_ands; go_simp); try with_reducible rfl)
        try simp only [Act.put, List.setIfInBounds_toArray, List.set_cons_zero, List.set_cons_succ]
        refine wpT_take (i := 12) (v := ?vc12) rfl (by kernel_rfl) (fun _ _ _ h => h) rfl ?yc12 ?rc12
        case yc12 => ((intro wz; go_simp); try with_reducible rfl)
        try simp only [Act.put, List.setIfInBounds_toArray, List.set_cons_zero, List.set_cons_succ]
        refine wpT_load (i := 13) (v := ?vc13) rfl (by kernel_rfl) (fun _ _ _ h => h) rfl ?yc13 HS ?rc13
        case yc13 => ((intro wz hSw; (try dsimp only at hSw); go_split_ands; go_simp); try with_reducible rfl)
        try simp only [Act.put, List.setIfInBounds_toArray, List.set_cons_zero, List.set_cons_succ]
        refine wpT_take (i := 14) (v := ?vc14) rfl (by kernel_rfl) (fun _ _ _ h => h) rfl ?yc14 ?rc14
        case yc14 => ((intro wz; go_simp); try with_reducible rfl)
        try simp only [Act.put, List.setIfInBounds_toArray, List.set_cons_zero, List.set_cons_succ]
        refine wpT_take (i := 15) (v := ?vc15) rfl (by kernel_rfl) (fun _ _ _ h => h) rfl ?yc15 ?rc15
        case yc15 => ((intro wz; go_simp); try with_reducible rfl)
        try simp only [Act.put, List.setIfInBounds_toArray, List.set_cons_zero, List.set_cons_succ]
        refine wpT_take (i := 16) (v := ?vc16) rfl (by kernel_rfl) (fun _ _ _ h => h) rfl ?yc16 ?rc16
        case yc16 => ((intro wz; go_simp); try with_reducible rfl)
        try simp only [Act.put, List.setIfInBounds_toArray, List.set_cons_zero, List.set_cons_succ]
        refine wpT_load (i := 17) (v := ?vc17) rfl (by kernel_rfl) (fun _ _ _ h => h) rfl ?yc17 HS ?rc17
        case yc17 => ((intro wz hSw; (try dsimp only at hSw); go_split_ands; go_simp); try with_reducible rfl)
        try simp only [Act.put, List.setIfInBounds_toArray, List.set_cons_zero, List.set_cons_succ]
        refine wpT_take (i := 18) (v := ?vc18) rfl (by kernel_rfl) (fun _ _ _ h => h) rfl ?yc18 ?rc18
        case yc18 => ((intro wz; go_simp); try with_reducible rfl)
        try simp only [Act.put, List.setIfInBounds_toArray, List.set_cons_zero, List.set_cons_succ]
        refine wpT_load (i := 19) (v := ?vc19) rfl (by kernel_rfl) (fun _ _ _ h => h) rfl ?yc19 HS ?rc19
        case yc19 => ((intro wz hSw; (try dsimp only at hSw); go_split_ands; go_simp); try with_reducible rfl)
        try simp only [Act.put, List.setIfInBounds_toArray, List.set_cons_zero, List.set_cons_succ]
        refine wpT_take (i := 20) (v := ?vc20) rfl (by kernel_rfl) (fun _ _ _ h => h) rfl ?yc20 ?rc20
        case yc20 => ((intro wz; go_simp); try with_reducible rfl)
        try simp only [Act.put, List.setIfInBounds_toArray, List.set_cons_zero, List.set_cons_succ]
        refine wpT_load (i := 21) (v := ?vc21) rfl (by kernel_rfl) (fun _ _ _ h => h) rfl ?yc21 HS ?rc21
        case yc21 => ((intro wz hSw; (try dsimp only at hSw); go_split_ands; go_simp); try with_reducible rfl)
        try simp only [Act.put, List.setIfInBounds_toArray, List.set_cons_zero, List.set_cons_succ]
        refine wpT_take (i := 22) (v := ?vc22) rfl (by kernel_rfl) (fun _ _ _ h => h) rfl ?yc22 ?rc22
        case yc22 => ((intro wz; go_simp); try with_reducible rfl)
        try simp only [Act.put, List.setIfInBounds_toArray, List.set_cons_zero, List.set_cons_succ]
        refine wpT_take (i := 23) (v := ?vc23) rfl (by kernel_rfl) (fun _ _ _ h => h) rfl ?yc23 ?rc23
        case yc23 => ((intro wz; go_simp); try with_reducible rfl)
        try simp only [Act.put, List.setIfInBounds_toArray, List.set_cons_zero, List.set_cons_succ]
        refine wpT_take (i := 24) (v := ?vc24) rfl (by kernel_rfl) (fun _ _ _ h => h) rfl ?yc24 ?rc24
        case yc24 => ((intro wz; go_simp); try with_reducible rfl)
        try simp only [Act.put, List.setIfInBounds_toArray, List.set_cons_zero, List.set_cons_succ]
        refine wpT_take (i := 25) (v := ?vc25) rfl (by kernel_rfl) (fun _ _ _ h => h) rfl ?yc25 ?rc25
        case yc25 => ((intro wz; go_simp); try with_reducible rfl)
        try simp only [Act.put, List.setIfInBounds_toArray, List.set_cons_zero, List.set_cons_succ]
        refine wpT_load (i := 26) (v := ?vc26) rfl (by kernel_rfl) (fun _ _ _ h => h) rfl ?yc26 HS ?rc26
        case yc26 => ((intro wz hSw; (try dsimp only at hSw); go_split_ands; go_simp); try with_reducible rfl)
        try simp only [Act.put, List.setIfInBounds_toArray, List.set_cons_zero, List.set_cons_succ]
        refine wpT_take (i := 27) (v := ?vc27) rfl (by kernel_rfl) (fun _ _ _ h => h) rfl ?yc27 ?rc27
        case yc27 => ((intro wz; go_simp); try with_reducible rfl)
        try simp only [Act.put, List.setIfInBounds_toArray, List.set_cons_zero, List.set_cons_succ]
        refine wpT_load (i := 28) (v := ?vc28) rfl (by kernel_rfl) (fun _ _ _ h => h) rfl ?yc28 HS ?rc28
        case yc28 => ((intro wz hSw; (try dsimp only at hSw); go_split_ands; go_simp); try with_reducible rfl)
        try simp only [Act.put, List.setIfInBounds_toArray, List.set_cons_zero, List.set_cons_succ]
        refine wpT_take (i := 29) (v := ?vc29) rfl (by kernel_rfl) (fun _ _ _ h => h) rfl ?yc29 ?rc29
        case yc29 => ((intro wz; go_simp); try with_reducible rfl)
        try simp only [Act.put, List.setIfInBounds_toArray, List.set_cons_zero, List.set_cons_succ]
        refine wpT_load (i := 30) (v := ?vc30) rfl (by kernel_rfl) (fun _ _ _ h => h) rfl ?yc30 HS ?rc30
        case yc30 => ((intro wz hSw; (try dsimp only at hSw); go_split_ands; go_simp); try with_reducible rfl)
        try simp only [Act.put, List.setIfInBounds_toArray, List.set_cons_zero, List.set_cons_succ]
        refine wpT_take (i := 31) (v := ?vc31) rfl (by kernel_rfl) (fun _ _ _ h => h) rfl ?yc31 ?rc31
        case yc31 => ((intro wz; go_simp); try with_reducible rfl)
        try simp only [Act.put, List.setIfInBounds_toArray, List.set_cons_zero, List.set_cons_succ]
        refine wpT_take (i := 32) (v := ?vc32) rfl (by kernel_rfl) (fun _ _ _ h => h) rfl ?yc32 ?rc32
        case yc32 => ((intro wz; go_simp); try with_reducible rfl)
        try simp only [Act.put, List.setIfInBounds_toArray, List.set_cons_zero, List.set_cons_succ]
        refine wpT_take (i := 33) (v := ?vc33) rfl (by kernel_rfl) (fun _ _ _ h => h) rfl ?yc33 ?rc33
        case yc33 => ((intro wz; go_simp); try with_reducible rfl)
        try simp only [Act.put, List.setIfInBounds_toArray, List.set_cons_zero, List.set_cons_succ]
        refine wpT_run (i := 34) (by kernel_rfl) rfl rfl ?_
        refine wp_app2 (.tmp 71) (.tmp 72) 27 rfl w.heap.size 3 _ 1 8 Try.underlying27 Try.infoInt rfl (by decide) (.slice none 0 0) 0 [] rfl (World.ownsRow_nil _ _ _ _) (.slice a4 (m.seq o).length cap4) (m.seq o).length (ints (List.range' m.cnt (m.seq o).length)) rfl (Sl.of_own C.out.own.drew) (by rw [ints_length]; simp) (ints_one _) hcap (by omega) (by decide) (by simpa using szw) ?_
        intro x3 w3 hown3 hg3' _
        have hg3 := grown_undrew hg3'
        rw [Nat.zero_add, List.nil_append] at hown3
        obtain ⟨a3, cap3, rfl⟩ := own_len hown3
        have q1 : w3.cell? ⟨g, 1, none⟩ = some (.slice (some ⟨b1, 0, none⟩) m.len cap1) := (World.cell?_of_block (hg3.block g lg (by simp [Value.ownBlock]))).trans c1
        have q2 : w3.cell? ⟨b1, l, none⟩ = some (.slice none 0 0) := (World.cell?_of_block (hg3.block b1 lb1 (by simp [Value.ownBlock]))).trans cl
        have q3 : w3.cell? ⟨w.heap.size, 1, none⟩ = some (.int .i64 (l : Nat)) := (World.cell?_of_block (hg3.block w.heap.size lN (by simp [Value.ownBlock]))).trans y1
        have q4 : w3.frozen? ⟨b1, l, none⟩ = false := (World.frozen?_of_block (hg3.block b1 lb1 (by simp [Value.ownBlock]))).trans fz
        have O3 : w3.ownsRow w.heap.size 3 1 (.slice a3 (m.seq o).length cap3) (m.seq l ++ List.range' m.cnt (m.seq o).length).length (ints (m.seq l ++ List.range' m.cnt (m.seq o).length)) := by
          rw [HN.out, List.nil_append, List.length_range']; exact hown3
        have FIN0 := C.out.fin H.out HF.out hll hg3 (.inl rfl) (IRow.of_own O3) (fun b q r => by have := (O3.lt b q).1; have := HV2.out b r; omega)
        rw [HTL.out] at FIN0
        have FIN := Lib.hid FIN0
        clear hown3 hg3 hg3' O3 FIN0
        refine ⟨cond_R (by decide) (by decide) ⟨q1, q2, q3⟩, ?_⟩
        simp only [Act.put, List.setIfInBounds_toArray, List.set_cons_zero, List.set_cons_succ]
        refine wpT_take (i := 35) (v := ?vc35) rfl (by kernel_rfl) (fun _ _ _ h => h) rfl ?yc35 ?rc35
        case yc35 => ((intro wz; go_simp); try with_reducible rfl)
        try simp only [Act.put, List.setIfInBounds_toArray, List.set_cons_zero, List.set_cons_succ]
        refine wpT_run (i := 36) (by kernel_rfl) rfl rfl ?_
        go_simp
        refine ⟨trivial, wpT_done (by kernel_rfl) ?_ _⟩
        first | go_end0 | (refine bodyPost_ret (results_none rfl _ _ _) rfl ?_)
        exact ⟨rfl, FIN.out⟩
      · have HB := Lib.hid hb; have HC4 := Lib.hid hc4; have HX2 := Lib.hid hx
        have hxI : ((m.seq l).length : Int) ≤ (cap : Int) := by omega
        rw [hx] at cl
        rcases hC.nil with hnil | hpos
        · subst hnil
          have HL0 := Lib.hid (own_nil_len hC.own)
          clear hC hs3 h3F hx hnb hv2 TL hb hc4
          go_wp2_with fail
          refine wp_region_T (fun w' => w'.cell? ⟨g, 1, none⟩ = some (.slice (some ⟨b1, 0, none⟩) m.len cap1) ∧ w'.cell? ⟨b1, l, none⟩ = some (.slice (some ⟨b, 0, none⟩) (m.seq l).length cap) ∧ w'.cell? ⟨w.heap.size, 1, none⟩ = some (.int .i64 (l : Nat))) [34] [36] run_mixed ?_
          simp only [List.size_toArray, List.length_cons, List.length_nil]
          have HS : wr.drew.cell? ⟨g, 1, none⟩ = some (.slice (some ⟨b1, 0, none⟩) m.len cap1) ∧ wr.drew.cell? ⟨b1, l, none⟩ = some (.slice (some ⟨b, 0, none⟩) (m.seq l).length cap) ∧ wr.drew.cell? ⟨w.heap.size, 1, none⟩ = some (.int .i64 (l : Nat)) := ⟨c1, cl, y1⟩
          refine wpT_take (i := 0) (v := ?vd0) rfl (by kernel_rfl) (fun _ _ _ h => h) rfl ?yd0 ?rd0
          case yd0 => ((intro wz; go_simp); try with_reducible rfl)
          try simp only [Act.put, List.setIfInBounds_toArray, List.set_cons_zero, List.set_cons_succ]
          refine wpT_take (i := 1) (v := ?vd1) rfl (by kernel_rfl) (fun _ _ _ h => h) rfl ?yd1 ?rd1
          case yd1 => ((intro wz; go_simp); try with_reducible rfl)
          try simp only [Act.put, List.setIfInBounds_toArray, List.set_cons_zero, List.set_cons_succ]
          refine wpT_take (i := 2) (v := ?vd2) rfl (by kernel_rfl) (fun _ _ _ h => h) rfl ?yd2 ?rd2
          case yd2 => ((intro wz; go_simp); try with_reducible rfl)
          try simp only [Act.put, List.setIfInBounds_toArray, List.set_cons_zero, List.set_cons_succ]
          refine wpT_load (i := 3) (v := ?vd3) rfl (by kernel_rfl) (fun _ _ _ h => h) rfl ?yd3 HS ?rd3
          case yd3 => ((intro wz hSw; (try dsimp only at hSw); go_split_ands; go_simp); try with_reducible rfl)
          try simp only [Act.put, List.setIfInBounds_toArray, List.set_cons_zero, List.set_cons_succ]
          refine wpT_take (i := 4) (v := ?vd4) rfl (by kernel_rfl) (fun _ _ _ h => h) rfl ?yd4 ?rd4
          case yd4 => ((intro wz; go_simp); try with_reducible rfl)
          try simp only [Act.put, List.setIfInBounds_toArray, List.set_cons_zero, List.set_cons_succ]
          refine wpT_load (i := 5) (v := ?vd5) rfl (by kernel_rfl) (fun _ _ _ h => h) rfl ?yd5 HS ?rd5
          case yd5 => ((intro wz hSw; (try dsimp only at hSw); go_split_ands; go_simp); try with_reducible rfl)
          try simp only [Act.put, List.setIfInBounds_toArray, List.set_cons_zero, List.set_cons_succ]
          refine wpT_take (i := 6) (v := ?vd6) rfl (by kernel_rfl) (fun _ _ _ h => h) rfl ?yd6 ?rd6
          case yd6 => ((intro wz; go_simp); try with_reducible rfl)
          try simp only [Act.put, List.setIfInBounds_toArray, List.set_cons_zero, List.set_cons_succ]
          refine wpT_take (i := 7) (v := ?vd7) rfl (by kernel_rfl) (fun _ _ _ h => h) rfl ?yd7 ?rd7
          case yd7 => ((intro wz; go_simp); try with_reducible rfl)
          try simp only [Act.put, List.setIfInBounds_toArray, List.set_cons_zero, List.set_cons_succ]
          refine wpT_take (i := 8) (v := ?vd8) rfl (by kernel_rfl) (fun _ _ _ h => h) rfl ?yd8 ?rd8
          case yd8 => ((intro wz; go_simp); try with_reducible rfl)
          try simp only [Act.put, List.setIfInBounds_toArray, List.set_cons_zero, List.set_cons_succ]
          refine wpT_load (i := 9) (v := ?vd9) rfl (by kernel_rfl) (fun _ _ _ h => h) rfl ?yd9 HS ?rd9
          case yd9 => ((intro wz hSw; (try dsimp only at hSw); go_split_ands; go_simp); try with_reducible rfl)
          try simp only [Act.put, List.setIfInBounds_toArray, List.set_cons_zero, List.set_cons_succ]
          refine wpT_take (i := 10) (v := ?vd10) rfl (by kernel_rfl) (fun _ _ _ h => h) rfl ?yd10 ?rd10
          case yd10 => ((intro wz; go_simp); try with_reducible rfl)
          try simp only [Act.put, List.setIfInBounds_toArray, List.set_cons_zero, List.set_cons_succ]
          refine wpT_load (i := 11) (v := ?vd11) rfl (by kernel_rfl) (fun _ _ _ h => h) rfl ?yd11 HS ?rd11
          case yd11 => ((intro wz hSw; (try dsimp only at hSw); go_split_ands; go_simp); try with_reducible rfl)
          try simp only [Act.put, List.setIfInBounds_toArray, List.set_cons_zero, List.set_cons_succ]
          refine wpT_take (i := 12) (v := ?vd12) rfl (by kernel_rfl) (fun _ _ _ h => h) rfl ?yd12 ?rd12
          case yd12 => ((intro wz; go_simp); try with_reducible rfl)
          try simp only [Act.put, List.setIfInBounds_toArray, List.set_cons_zero, List.set_cons_succ]
          refine wpT_load (i := 13) (v := ?vd13) rfl (by kernel_rfl) (fun _ _ _ h => h) rfl ?yd13 HS ?rd13
          case yd13 => ((intro wz hSw; (try dsimp only at hSw); go_split_ands; go_simp); try with_reducible rfl)
          try simp only [Act.put, List.setIfInBounds_toArray, List.set_cons_zero, List.set_cons_succ]
          refine wpT_take (i := 14) (v := ?vd14) rfl (by kernel_rfl) (fun _ _ _ h => h) rfl ?yd14 ?rd14
          case yd14 => ((intro wz; go_simp); try with_reducible rfl)
          try simp only [Act.put, List.setIfInBounds_toArray, List.set_cons_zero, List.set_cons_succ]
          refine wpT_take (i := 15) (v := ?vd15) rfl (by kernel_rfl) (fun _ _ _ h => h) rfl ?yd15 ?rd15
          case yd15 => ((intro wz; go_simp); try with_reducible rfl)
          try simp only [Act.put, List.setIfInBounds_toArray, List.set_cons_zero, List.set_cons_succ]
          refine wpT_take (i := 16) (v := ?vd16) rfl (by kernel_rfl) (fun _ _ _ h => h) rfl ?yd16 ?rd16
          case yd16 => ((intro wz; go_simp); try with_reducible rfl)
          try simp only [Act.put, List.setIfInBounds_toArray, List.set_cons_zero, List.set_cons_succ]
          refine wpT_load (i := 17) (v := ?vd17) rfl (by kernel_rfl) (fun _ _ _ h => h) rfl ?yd17 HS ?rd17
          case yd17 => ((intro wz hSw; (try dsimp only at hSw); go_split_ands; go_simp); try with_reducible rfl)
          try simp only [Act.put, List.setIfInBounds_toArray, List.set_cons_zero, List.set_cons_succ]
          refine wpT_take (i := 18) (v := ?vd18) rfl (by kernel_rfl) (fun _ _ _ h => h) rfl ?yd18 ?rd18
          case yd18 => ((intro wz; go_simp); try with_reducible rfl)
          try simp only [Act.put, List.setIfInBounds_toArray, List.set_cons_zero, List.set_cons_succ]
          refine wpT_load (i := 19) (v := ?vd19) rfl (by kernel_rfl) (fun _ _ _ h => h) rfl ?yd19 HS ?rd19
          case yd19 => ((intro wz hSw; (try dsimp only at hSw); go_split_ands; go_simp); try with_reducible rfl)
          try simp only [Act.put, List.setIfInBounds_toArray, List.set_cons_zero, List.set_cons_succ]
          refine wpT_take (i := 20) (v := ?vd20) rfl (by kernel_rfl) (fun _ _ _ h => h) rfl ?yd20 ?rd20
          case yd20 => ((intro wz; go_simp); try with_reducible rfl)
          try simp only [Act.put, List.setIfInBounds_toArray, List.set_cons_zero, List.set_cons_succ]
          refine wpT_load (i := 21) (v := ?vd21) rfl (by kernel_rfl) (fun _ _ _ h => h) rfl ?yd21 HS ?rd21
          case yd21 => ((intro wz hSw; (try dsimp only at hSw); go_split_ands; go_simp); try with_reducible rfl)
          try simp only [Act.put, List.setIfInBounds_toArray, List.set_cons_zero, List.set_cons_succ]
          refine wpT_take (i := 22) (v := ?vd22) rfl (by kernel_rfl) (fun _ _ _ h => h) rfl ?yd22 ?rd22
          case yd22 => ((intro wz; go_simp); try with_reducible rfl)
          try simp only [Act.put, List.setIfInBounds_toArray, List.set_cons_zero, List.set_cons_succ]
          refine wpT_take (i := 23) (v := ?vd23) rfl (by kernel_rfl) (fun _ _ _ h => h) rfl ?yd23 ?rd23
          case yd23 => ((intro wz; go_simp); try with_reducible rfl)
          try simp only [Act.put, List.setIfInBounds_toArray, List.set_cons_zero, List.set_cons_succ]
          refine wpT_take (i := 24) (v := ?vd24) rfl (by kernel_rfl) (fun _ _ _ h => h) rfl ?yd24 ?rd24
          case yd24 => ((intro wz; go_simp); try with_reducible rfl)
          try simp only [Act.put, List.setIfInBounds_toArray, List.set_cons_zero, List.set_cons_succ]
          refine wpT_take (i := 25) (v := ?vd25) rfl (by kernel_rfl) (fun _ _ _ h => h) rfl ?yd25 ?rd25
          case yd25 => ((intro wz; go_simp); try with_reducible rfl)
          try simp only [Act.put, List.setIfInBounds_toArray, List.set_cons_zero, List.set_cons_succ]
          refine wpT_load (i := 26) (v := ?vd26) rfl (by kernel_rfl) (fun _ _ _ h => h) rfl ?yd26 HS ?rd26
          case yd26 => ((intro wz hSw; (try dsimp only at hSw); go_split_ands; go_simp); try with_reducible rfl)
          try simp only [Act.put, List.setIfInBounds_toArray, List.set_cons_zero, List.set_cons_succ]
          refine wpT_take (i := 27) (v := ?vd27) rfl (by kernel_rfl) (fun _ _ _ h => h) rfl ?yd27 ?rd27
          case yd27 => ((intro wz; go_simp); try with_reducible rfl)
          try simp only [Act.put, List.setIfInBounds_toArray, List.set_cons_zero, List.set_cons_succ]
          refine wpT_load (i := 28) (v := ?vd28) rfl (by kernel_rfl) (fun _ _ _ h => h) rfl ?yd28 HS ?rd28
          case yd28 => ((intro wz hSw; (try dsimp only at hSw); go_split_ands; go_simp); try with_reducible rfl)
          try simp only [Act.put, List.setIfInBounds_toArray, List.set_cons_zero, List.set_cons_succ]
          refine wpT_take (i := 29) (v := ?vd29) rfl (by kernel_rfl) (fun _ _ _ h => h) rfl ?yd29 ?rd29
          case yd29 => ((intro wz; go_simp); try with_reducible rfl)
          try simp only [Act.put, List.setIfInBounds_toArray, List.set_cons_zero, List.set_cons_succ]
          refine wpT_load (i := 30) (v := ?vd30) rfl (by kernel_rfl) (fun _ _ _ h => h) rfl ?yd30 HS ?rd30
          case yd30 => ((intro wz hSw; (try dsimp only at hSw); go_split_ands; go_simp); try with_reducible rfl)
          try simp only [Act.put, List.setIfInBounds_toArray, List.set_cons_zero, List.set_cons_succ]
          refine wpT_take (i := 31) (v := ?vd31) rfl (by kernel_rfl) (fun _ _ _ h => h) rfl ?yd31 ?rd31
          case yd31 => ((intro wz; go_simp); try with_reducible rfl)
          try simp only [Act.put, List.setIfInBounds_toArray, List.set_cons_zero, List.set_cons_succ]
          refine wpT_take (i := 32) (v := ?vd32) rfl (by kernel_rfl) (fun _ _ _ h => h) rfl ?yd32 ?rd32
          case yd32 => ((intro wz; go_simp); try with_reducible rfl)
          try simp only [Act.put, List.setIfInBounds_toArray, List.set_cons_zero, List.set_cons_succ]
          refine wpT_take (i := 33) (v := ?vd33) rfl (by kernel_rfl) (fun _ _ _ h => h) rfl ?yd33 ?rd33
          case yd33 => ((intro wz; go_simp); try with_reducible rfl)
          try simp only [Act.put, List.setIfInBounds_toArray, List.set_cons_zero, List.set_cons_succ]
          refine wpT_run (i := 34) (by kernel_rfl) rfl rfl ?_
          refine wp_app_nil (.tmp 71) (.tmp 72) 27 rfl 3 _ 1 8 Try.underlying27 Try.infoInt b (m.seq l).length rfl rfl ?_
          have FIN0 := C.out.fin (x := .slice (some ⟨b, 0, none⟩) (m.seq l).length (m.seq l).length) (s := m.seq l ++ List.range' m.cnt (m.seq o).length) H.out HF.out hll (grown_same wr) (.inl rfl) (by rw [HL0.out]; simp only [List.range'_zero, List.append_nil]; exact .inr ⟨b, (m.seq l).length, c, rfl, HB.out, Nat.le_refl _, Nat.le_trans hc1 hc2, Nat.le_trans hc1 hc3, HC4.out⟩) (fun b' q r => by
            simp [Value.ownBlock] at q; subst q
            exact H.out.dist l b hll (by rw [HX2.out]; rfl) r)
          rw [HTL.out] at FIN0
          have FIN := Lib.hid FIN0
          clear FIN0
          refine ⟨cond_R (by decide) (by decide) ⟨c1, cl, y1⟩, ?_⟩
          simp only [Act.put, List.setIfInBounds_toArray, List.set_cons_zero, List.set_cons_succ]
          refine wpT_take (i := 35) (v := ?vd35) rfl (by kernel_rfl) (fun _ _ _ h => h) rfl ?yd35 ?rd35
          case yd35 => ((intro wz; go_simp); try with_reducible rfl)
          try simp only [Act.put, List.setIfInBounds_toArray, List.set_cons_zero, List.set_cons_succ]
          refine wpT_run (i := 36) (by kernel_rfl) rfl rfl ?_
          go_simp
          refine ⟨trivial, wpT_done (by kernel_rfl) ?_ _⟩
          first | go_end0 | (refine bodyPost_ret (results_none rfl _ _ _) rfl ?_)
          exact ⟨rfl, FIN.out⟩
        · obtain ⟨gf, capf, hu4⟩ := own_form hC.own hpos
          subst hu4
          have SLX : Hid (Sl wr.drew (.slice (some ⟨b, 0, none⟩) (m.seq l).length (m.seq l).length) (m.seq l).length (ints (m.seq l))) := by
            have := IRow.sl (w := wr.drew) (x := .slice (some ⟨b, 0, none⟩) (m.seq l).length (m.seq l).length) (s := m.seq l) (.inr ⟨b, (m.seq l).length, c, rfl, hb, Nat.le_refl _, Nat.le_trans hc1 hc2, Nat.le_trans hc1 hc3, hc4⟩)
            exact this
          have HPOS := hpos
          clear hC hs3 h3F hx hnb hv2 TL hb hc4
          go_wp2_with fail
          refine wp_region_T (fun w' => w'.cell? ⟨g, 1, none⟩ = some (.slice (some ⟨b1, 0, none⟩) m.len cap1) ∧ w'.cell? ⟨b1, l, none⟩ = some (.slice (some ⟨b, 0, none⟩) (m.seq l).length cap) ∧ w'.cell? ⟨w.heap.size, 1, none⟩ = some (.int .i64 (l : Nat))) [34] [36] run_mixed ?_
          simp only [List.size_toArray, List.length_cons, List.length_nil]
          have HS : wr.drew.cell? ⟨g, 1, none⟩ = some (.slice (some ⟨b1, 0, none⟩) m.len cap1) ∧ wr.drew.cell? ⟨b1, l, none⟩ = some (.slice (some ⟨b, 0, none⟩) (m.seq l).length cap) ∧ wr.drew.cell? ⟨w.heap.size, 1, none⟩ = some (.int .i64 (l : Nat)) := ⟨c1, cl, y1⟩
          refine wpT_take (i := 0) (v := ?ve0) rfl (by kernel_rfl) (fun _ _ _ h => h) rfl ?ye0 ?re0
          case ye0 => ((intro wz; go_simp); try with_reducible rfl)
          try simp only [Act.put, List.setIfInBounds_toArray, List.set_cons_zero, List.set_cons_succ]
          refine wpT_take (i := 1) (v := ?ve1) rfl (by kernel_rfl) (fun _ _ _ h => h) rfl ?ye1 ?re1
          case ye1 => ((intro wz; go_simp); try with_reducible rfl)
          try simp only [Act.put, List.setIfInBounds_toArray, List.set_cons_zero, List.set_cons_succ]
          refine wpT_take (i := 2) (v := ?ve2) rfl (by kernel_rfl) (fun _ _ _ h => h) rfl ?ye2 ?re2
          case ye2 => ((intro wz; go_simp); try with_reducible rfl)
          try simp only [Act.put, List.setIfInBounds_toArray, List.set_cons_zero, List.set_cons_succ]
          refine wpT_load (i := 3) (v := ?ve3) rfl (by kernel_rfl) (fun _ _ _ h => h) rfl ?ye3 HS ?re3
          case ye3 => ((intro wz hSw; (try dsimp only at hSw); go_split_ands; go_simp); try with_reducible rfl)
          try simp only [Act.put, List.setIfInBounds_toArray, List.set_cons_zero, List.set_cons_succ]
          refine wpT_take (i := 4) (v := ?ve4) rfl (by kernel_rfl) (fun _ _ _ h => h) rfl ?ye4 ?re4
          case ye4 => ((intro wz; go_simp); try with_reducible rfl)
          try simp only [Act.put, List.setIfInBounds_toArray, List.set_cons_zero, List.set_cons_succ]
          refine wpT_load (i := 5) (v := ?ve5) rfl (by kernel_rfl) (fun _ _ _ h => h) rfl ?ye5 HS ?re5
          case ye5 => ((intro wz hSw; (try dsimp only at hSw); go_split_ands; go_simp); try with_reducible rfl)
          try simp only [Act.put, List.setIfInBounds_toArray, List.set_cons_zero, List.set_cons_succ]
          refine wpT_take (i := 6) (v := ?ve6) rfl (by kernel_rfl) (fun _ _ _ h => h) rfl ?ye6 ?re6
          case ye6 => ((intro wz; go_simp); try with_reducible rfl)
          try simp only [Act.put, List.setIfInBounds_toArray, List.set_cons_zero, List.set_cons_succ]
          refine wpT_take (i := 7) (v := ?ve7) rfl (by kernel_rfl) (fun _ _ _ h => h) rfl ?ye7 ?re7
          case ye7 => ((intro wz; go_simp); try with_reducible rfl)
          try simp only [Act.put, List.setIfInBounds_toArray, List.set_cons_zero, List.set_cons_succ]
          refine wpT_take (i := 8) (v := ?ve8) rfl (by kernel_rfl) (fun _ _ _ h => h) rfl ?ye8 ?re8
          case ye8 => ((intro wz; go_simp); try with_reducible rfl)
          try simp only [Act.put, List.setIfInBounds_toArray, List.set_cons_zero, List.set_cons_succ]
          refine wpT_load (i := 9) (v := ?ve9) rfl (by kernel_rfl) (fun _ _ _ h => h) rfl ?ye9 HS ?re9
          case ye9 => ((intro wz hSw; (try dsimp only at hSw); go_split_ands; go_simp); try with_reducible rfl)
          try simp only [Act.put, List.setIfInBounds_toArray, List.set_cons_zero, List.set_cons_succ]
          refine wpT_take (i := 10) (v := ?ve10) rfl (by kernel_rfl) (fun _ _ _ h => h) rfl ?ye10 ?re10
          case ye10 => ((intro wz; go_simp); try with_reducible rfl)
          try simp only [Act.put, List.setIfInBounds_toArray, List.set_cons_zero, List.set_cons_succ]
          refine wpT_load (i := 11) (v := ?ve11) rfl (by kernel_rfl) (fun _ _ _ h => h) rfl ?ye11 HS ?re11
          case ye11 => ((intro wz hSw; (try dsimp only at hSw); go_split_ands; go_simp); try with_reducible rfl)
          try simp only [Act.put, List.setIfInBounds_toArray, List.set_cons_zero, List.set_cons_succ]
          refine wpT_take (i := 12) (v := ?ve12) rfl (by kernel_rfl) (fun _ _ _ h => h) rfl ?ye12 ?re12
          case ye12 => ((intro wz; go_simp); try with_reducible rfl)
          try simp only [Act.put, List.setIfInBounds_toArray, List.set_cons_zero, List.set_cons_succ]
          refine wpT_load (i := 13) (v := ?ve13) rfl (by kernel_rfl) (fun _ _ _ h => h) rfl ?ye13 HS ?re13
          case ye13 => ((intro wz hSw; (try dsimp only at hSw); go_split_ands; go_simp); try with_reducible rfl)
          try simp only [Act.put, List.setIfInBounds_toArray, List.set_cons_zero, List.set_cons_succ]
          refine wpT_take (i := 14) (v := ?ve14) rfl (by kernel_rfl) (fun _ _ _ h => h) rfl ?ye14 ?re14
          case ye14 => ((intro wz; go_simp); try with_reducible rfl)
          try simp only [Act.put, List.setIfInBounds_toArray, List.set_cons_zero, List.set_cons_succ]
          refine wpT_take (i := 15) (v := ?ve15) rfl (by kernel_rfl) (fun _ _ _ h => h) rfl ?ye15 ?re15
          case ye15 => ((intro wz; go_simp); try with_reducible rfl)
          try simp only [Act.put, List.setIfInBounds_toArray, List.set_cons_zero, List.set_cons_succ]
          refine wpT_take (i := 16) (v := ?ve16) rfl (by kernel_rfl) (fun _ _ _ h => h) rfl ?ye16 ?re16
          case ye16 => ((intro wz; go_simp); try with_reducible rfl)
          try simp only [Act.put, List.setIfInBounds_toArray, List.set_cons_zero, List.set_cons_succ]
          refine wpT_load (i := 17) (v := ?ve17) rfl (by kernel_rfl) (fun _ _ _ h => h) rfl ?ye17 HS ?re17
          case ye17 => ((intro wz hSw; (try dsimp only at hSw); go_split_ands; go_simp); try with_reducible rfl)
          try simp only [Act.put, List.setIfInBounds_toArray, List.set_cons_zero, List.set_cons_succ]
          refine wpT_take (i := 18) (v := ?ve18) rfl (by kernel_rfl) (fun _ _ _ h => h) rfl ?ye18 ?re18
          case ye18 => ((intro wz; go_simp); try with_reducible rfl)
          try simp only [Act.put, List.setIfInBounds_toArray, List.set_cons_zero, List.set_cons_succ]
          refine wpT_load (i := 19) (v := ?ve19) rfl (by kernel_rfl) (fun _ _ _ h => h) rfl ?ye19 HS ?re19
          case ye19 => ((intro wz hSw; (try dsimp only at hSw); go_split_ands; go_simp); try with_reducible rfl)
          try simp only [Act.put, List.setIfInBounds_toArray, List.set_cons_zero, List.set_cons_succ]
          refine wpT_take (i := 20) (v := ?ve20) rfl (by kernel_rfl) (fun _ _ _ h => h) rfl ?ye20 ?re20
          case ye20 => ((intro wz; go_simp); try with_reducible rfl)
          try simp only [Act.put, List.setIfInBounds_toArray, List.set_cons_zero, List.set_cons_succ]
          refine wpT_load (i := 21) (v := ?ve21) rfl (by kernel_rfl) (fun _ _ _ h => h) rfl ?ye21 HS ?re21
          case ye21 => ((intro wz hSw; (try dsimp only at hSw); go_split_ands; go_simp); try with_reducible rfl)
          try simp only [Act.put, List.setIfInBounds_toArray, List.set_cons_zero, List.set_cons_succ]
          refine wpT_take (i := 22) (v := ?ve22) rfl (by kernel_rfl) (fun _ _ _ h => h) rfl ?ye22 ?re22
          case ye22 => ((intro wz; go_simp); try with_reducible rfl)
          try simp only [Act.put, List.setIfInBounds_toArray, List.set_cons_zero, List.set_cons_succ]
          refine wpT_take (i := 23) (v := ?ve23) rfl (by kernel_rfl) (fun _ _ _ h => h) rfl ?ye23 ?re23
          case ye23 => ((intro wz; go_simp); try with_reducible rfl)
          try simp only [Act.put, List.setIfInBounds_toArray, List.set_cons_zero, List.set_cons_succ]
          refine wpT_take (i := 24) (v := ?ve24) rfl (by kernel_rfl) (fun _ _ _ h => h) rfl ?ye24 ?re24
          case ye24 => ((intro wz; go_simp); try with_reducible rfl)
          try simp only [Act.put, List.setIfInBounds_toArray, List.set_cons_zero, List.set_cons_succ]
          refine wpT_take (i := 25) (v := ?ve25) rfl (by kernel_rfl) (fun _ _ _ h => h) rfl ?ye25 ?re25
          case ye25 => ((intro wz; go_simp); try with_reducible rfl)
          try simp only [Act.put, List.setIfInBounds_toArray, List.set_cons_zero, List.set_cons_succ]
          refine wpT_load (i := 26) (v := ?ve26) rfl (by kernel_rfl) (fun _ _ _ h => h) rfl ?ye26 HS ?re26
          case ye26 => ((intro wz hSw; (try dsimp only at hSw); go_split_ands; go_simp); try with_reducible rfl)
          try simp only [Act.put, List.setIfInBounds_toArray, List.set_cons_zero, List.set_cons_succ]
          refine wpT_take (i := 27) (v := ?ve27) rfl (by kernel_rfl) (fun _ _ _ h => h) rfl ?ye27 ?re27
          case ye27 => ((intro wz; go_simp); try with_reducible rfl)
          try simp only [Act.put, List.setIfInBounds_toArray, List.set_cons_zero, List.set_cons_succ]
          refine wpT_load (i := 28) (v := ?ve28) rfl (by kernel_rfl) (fun _ _ _ h => h) rfl ?ye28 HS ?re28
          case ye28 => ((intro wz hSw; (try dsimp only at hSw); go_split_ands; go_simp); try with_reducible rfl)
          try simp only [Act.put, List.setIfInBounds_toArray, List.set_cons_zero, List.set_cons_succ]
          refine wpT_take (i := 29) (v := ?ve29) rfl (by kernel_rfl) (fun _ _ _ h => h) rfl ?ye29 ?re29
          case ye29 => ((intro wz; go_simp); try with_reducible rfl)
          try simp only [Act.put, List.setIfInBounds_toArray, List.set_cons_zero, List.set_cons_succ]
          refine wpT_load (i := 30) (v := ?ve30) rfl (by kernel_rfl) (fun _ _ _ h => h) rfl ?ye30 HS ?re30
          case ye30 => ((intro wz hSw; (try dsimp only at hSw); go_split_ands; go_simp); try with_reducible rfl)
          try simp only [Act.put, List.setIfInBounds_toArray, List.set_cons_zero, List.set_cons_succ]
          refine wpT_take (i := 31) (v := ?ve31) rfl (by kernel_rfl) (fun _ _ _ h => h) rfl ?ye31 ?re31
          case ye31 => ((intro wz; go_simp); try with_reducible rfl)
          try simp only [Act.put, List.setIfInBounds_toArray, List.set_cons_zero, List.set_cons_succ]
          refine wpT_take (i := 32) (v := ?ve32) rfl (by kernel_rfl) (fun _ _ _ h => h) rfl ?ye32 ?re32
          case ye32 => ((intro wz; go_simp); try with_reducible rfl)
          try simp only [Act.put, List.setIfInBounds_toArray, List.set_cons_zero, List.set_cons_succ]
          refine wpT_take (i := 33) (v := ?ve33) rfl (by kernel_rfl) (fun _ _ _ h => h) rfl ?ye33 ?re33
          case ye33 => ((intro wz; go_simp); try with_reducible rfl)
          try simp only [Act.put, List.setIfInBounds_toArray, List.set_cons_zero, List.set_cons_succ]
          refine wpT_run (i := 34) (by kernel_rfl) rfl rfl ?_
          refine wp_app_full (.tmp 71) (.tmp 72) 27 rfl 3 _ 1 8 Try.underlying27 Try.infoInt rfl (by decide) b (m.seq l).length (ints (m.seq l)) rfl (by rw [ints_length]; simp) SLX.out ⟨gf, 0, none⟩ (m.seq o).length capf (ints (List.range' m.cnt (m.seq o).length)) rfl (Sl.of_own C.out.own.drew) (by rw [ints_length]; simp) HPOS (by omega) (by decide) ?_
          intro x3 w3 hown3 hg3'
          have hg3 := grown_undrew hg3'
          obtain ⟨a3, cap3, rfl⟩ := own_len hown3
          have q1 : w3.cell? ⟨g, 1, none⟩ = some (.slice (some ⟨b1, 0, none⟩) m.len cap1) := (World.cell?_of_block (hg3.block g lg (by simp [Value.ownBlock]))).trans c1
          have q2 : w3.cell? ⟨b1, l, none⟩ = some (.slice (some ⟨b, 0, none⟩) (m.seq l).length cap) := (World.cell?_of_block (hg3.block b1 lb1 (by simp [Value.ownBlock]))).trans cl
          have q3 : w3.cell? ⟨w.heap.size, 1, none⟩ = some (.int .i64 (l : Nat)) := (World.cell?_of_block (hg3.block w.heap.size lN (by simp [Value.ownBlock]))).trans y1
          have q4 : w3.frozen? ⟨b1, l, none⟩ = false := (World.frozen?_of_block (hg3.block b1 lb1 (by simp [Value.ownBlock]))).trans fz
          have O3 : w3.ownsRow wr.heap.size 3 1 (.slice a3 ((m.seq l).length + (m.seq o).length) cap3) (m.seq l ++ List.range' m.cnt (m.seq o).length).length (ints (m.seq l ++ List.range' m.cnt (m.seq o).length)) := by
            rw [List.length_append, List.length_range', ints_append]; exact hown3
          have FIN0 := C.out.fin H.out HF.out hll hg3 (.inl rfl) (IRow.of_own O3) (fun b q r => by have := (O3.lt b q).1; have := HV2.out b r; omega)
          rw [HTL.out] at FIN0
          have FIN := Lib.hid FIN0
          clear hown3 hg3 hg3' O3 FIN0
          refine ⟨cond_R (by decide) (by decide) ⟨q1, q2, q3⟩, ?_⟩
          simp only [Act.put, List.setIfInBounds_toArray, List.set_cons_zero, List.set_cons_succ]
          refine wpT_take (i := 35) (v := ?ve35) rfl (by kernel_rfl) (fun _ _ _ h => h) rfl ?ye35 ?re35
          case ye35 => ((intro wz; go_simp); try with_reducible rfl)
          try simp only [Act.put, List.setIfInBounds_toArray, List.set_cons_zero, List.set_cons_succ]
          refine wpT_run (i := 36) (by kernel_rfl) rfl rfl ?_
          go_simp
          refine ⟨trivial, wpT_done (by kernel_rfl) ?_ _⟩
          first | go_end0 | (refine bodyPost_ret (results_none rfl _ _ _) rfl ?_)
          exact ⟨rfl, FIN.out⟩
    · have hjl : j < (m.seq o).length := by omega
      obtain ⟨v3', hs3, h3F⟩ := hC.sr
      have hx := HX.out (m.seq o)[j] (List.getElem_mem hjl)
      have lT : ((m.seq o).take j).length = j := by simp; omega
      have hxc : (m.seq o)[j] < (m.copy l ((m.seq o).take j)).cnt := by simp only [Md.copy, lT]; omega
      have c3 := hs3.c3
      obtain ⟨b3, cap3, rfl, ce, _⟩ := hs3.at3 hxc
      have evl : (m.copy l ((m.seq o).take j)).val (m.seq o)[j] = m.val (m.seq o)[j] := by simp only [Md.copy]; rw [if_neg (by omega)]
      have e0 := ce 0 _ rfl; have e1 := ce 1 _ rfl; have e2 := ce 2 _ rfl
      rw [evl] at e0 e1 e2
      simp only [Nat.add_zero] at e0
      have ec : (m.copy l ((m.seq o).take j)).cnt = m.cnt + j := by simp only [Md.copy, lT]
      rw [ec] at c3
      have y1 := hC.cell (t := 1) rfl
      have hne : m.seq o ≠ [] := by intro q; rw [q] at hjl; simp at hjl
      obtain ⟨bo, cpo, hxo, hco⟩ := (hs3.ll o hoo).get hne
      have hxo2 := HLO.out
      rw [hxo] at hxo2
      simp only [Value.slice.injEq] at hxo2
      obtain ⟨rfl, _, rfl⟩ := hxo2
      have cj : wr.cell? ⟨bo, j, none⟩ = some (.int .i64 ((m.seq o)[j] : Nat)) := hco j _ (List.getElem?_eq_getElem hjl)
      have hclr : (m.copy l ((m.seq o).take j)).clr (m.cnt + j) = none := (HW.out.out (m.cnt + j) (by omega)).2.1
      have hfst : (m.copy l ((m.seq o).take j)).fst (m.cnt + j) = none := (HW.out.out (m.cnt + j) (by omega)).2.2
      have MK := Lib.hid (make_s hs3.drew (m.val (m.seq o)[j]) (some l) (by rw [ec]; exact hclr) (by rw [ec]; exact hfst) (by rw [ec]; omega))
      rw [ec, optI_some] at MK
      have C := Lib.hid hC; have S3 := Lib.hid hs3; have S3F := Lib.hid h3F; have HJ := Lib.hid hj
      have hsz2 := hC.keeps.size
      have hxI : (((m.seq o)[j] : Nat) : Int) < (m.cnt : Int) + (j : Int) := by omega
      have hxI2 : (m.seq o)[j] < m.cnt + j := by omega
      clear hC hs3 h3F hclr hfst hco ce evl hj hxo hne lT
      unfold Vl.agg at MK
      generalize hxx : (m.seq o)[j] = x at *
      generalize hvx : m.val x = vx at *
      have HXX := Lib.hid hxx; have HVX := Lib.hid hvx
      clear hxx hvx
      go_wp2_with fail
      refine wp_region_T (fun w' => w'.cell? ⟨g, 3, none⟩ = some (.slice (some ⟨b3, 0, none⟩) (m.cnt + j) cap3) ∧ w'.cell? ⟨b3, x * 6, none⟩ = some (.int .i64 vx.kind) ∧ w'.cell? ⟨b3, x * 6 + 1, none⟩ = some (.int .i64 vx.n) ∧ w'.cell? ⟨b3, x * 6 + 2, none⟩ = some (.string vx.s) ∧ w'.cell? ⟨w.heap.size, 1, none⟩ = some (.int .i64 (l : Nat))) [] [12, 13, 14] run_mixed ?_
      simp only [List.size_toArray, List.length_cons, List.length_nil]
      have HS : wr.drew.cell? ⟨g, 3, none⟩ = some (.slice (some ⟨b3, 0, none⟩) (m.cnt + j) cap3) ∧ wr.drew.cell? ⟨b3, x * 6, none⟩ = some (.int .i64 vx.kind) ∧ wr.drew.cell? ⟨b3, x * 6 + 1, none⟩ = some (.int .i64 vx.n) ∧ wr.drew.cell? ⟨b3, x * 6 + 2, none⟩ = some (.string vx.s) ∧ wr.drew.cell? ⟨w.heap.size, 1, none⟩ = some (.int .i64 (l : Nat)) := ⟨c3, e0, e1, e2, y1⟩
      refine wpT_take (i := 0) (v := ?va0) rfl (by kernel_rfl) (fun _ _ _ h => h) rfl ?ya0 ?ra0
      case ya0 => ((intro wz; go_simp); try with_reducible rfl)
      try simp only [Act.put, List.setIfInBounds_toArray, List.set_cons_zero, List.set_cons_succ]
      refine wpT_take (i := 1) (v := ?va1) rfl (by kernel_rfl) (fun _ _ _ h => h) rfl ?ya1 ?ra1
      case ya1 => ((intro wz; go_simp); try with_reducible rfl)
      try simp only [Act.put, List.setIfInBounds_toArray, List.set_cons_zero, List.set_cons_succ]
      refine wpT_take (i := 2) (v := ?va2) rfl (by kernel_rfl) (fun _ _ _ h => h) rfl ?ya2 ?ra2
      case ya2 => ((intro wz; go_simp); try with_reducible rfl)
      try simp only [Act.put, List.setIfInBounds_toArray, List.set_cons_zero, List.set_cons_succ]
      refine wpT_take (i := 3) (v := ?va3) rfl (by kernel_rfl) (fun _ _ _ h => h) rfl ?ya3 ?ra3
      case ya3 => ((intro wz; go_simp); try with_reducible rfl)
      try simp only [Act.put, List.setIfInBounds_toArray, List.set_cons_zero, List.set_cons_succ]
      refine wpT_take (i := 4) (v := ?va4) rfl (by kernel_rfl) (fun _ _ _ h => h) rfl ?ya4 ?ra4
      case ya4 => ((intro wz; go_simp); try with_reducible rfl)
      try simp only [Act.put, List.setIfInBounds_toArray, List.set_cons_zero, List.set_cons_succ]
      refine wpT_load (i := 5) (v := ?va5) rfl (by kernel_rfl) (fun _ _ _ h => h) rfl ?ya5 HS ?ra5
      case ya5 => ((intro wz hSw; (try dsimp only at hSw); go_split_ands; go_simp); try with_reducible rfl)
      try simp only [Act.put, List.setIfInBounds_toArray, List.set_cons_zero, List.set_cons_succ]
      refine wpT_take (i := 6) (v := ?va6) rfl (by kernel_rfl) (fun _ _ _ h => h) rfl ?ya6 ?ra6
      case ya6 => ((intro wz; go_simp); try with_reducible rfl)
      try simp only [Act.put, List.setIfInBounds_toArray, List.set_cons_zero, List.set_cons_succ]
      refine wpT_take (i := 7) (v := ?va7) rfl (by kernel_rfl) (fun _ _ _ h => h) rfl ?ya7 ?ra7
      case ya7 => ((intro wz; go_simp); try with_reducible rfl)
      try simp only [Act.put, List.setIfInBounds_toArray, List.set_cons_zero, List.set_cons_succ]
      refine wpT_take (i := 8) (v := ?va8) rfl (by kernel_rfl) (fun _ _ _ h => h) rfl ?ya8 ?ra8
      case ya8 => ((intro wz; go_simp); try with_reducible rfl)
      try simp only [Act.put, List.setIfInBounds_toArray, List.set_cons_zero, List.set_cons_succ]
      refine wpT_load (i := 9) (v := ?va9) rfl (by kernel_rfl) (fun _ _ _ h => h) rfl ?ya9 HS ?ra9
      case ya9 => ((intro wz hSw; (try dsimp only at hSw); go_split_ands; go_simp); try with_reducible rfl)
      try simp only [Act.put, List.setIfInBounds_toArray, List.set_cons_zero, List.set_cons_succ]
      refine wpT_take (i := 10) (v := ?va10) rfl (by kernel_rfl) (fun _ _ _ h => h) rfl ?ya10 ?ra10
      case ya10 => ((intro wz; go_simp); try with_reducible rfl)
      try simp only [Act.put, List.setIfInBounds_toArray, List.set_cons_zero, List.set_cons_succ]
      refine wpT_load (i := 11) (v := ?va11) rfl (by kernel_rfl) (fun _ _ _ h => h) rfl ?ya11 HS ?ra11
      case ya11 => ((intro wz hSw; (try dsimp only at hSw); go_split_ands; go_simp); try with_reducible rfl)
      try simp only [Act.put, List.setIfInBounds_toArray, List.set_cons_zero, List.set_cons_succ]
      refine wpT_run (i := 12) (by kernel_rfl) rfl rfl ?_
      go_simp
      refine MK.out.mono ?_
      rintro r w1 ⟨rfl, M1⟩
      have M := Lib.hid M1.undrew
      have sz1 : wr.heap.size ≤ w1.heap.size := by obtain ⟨_, _, _, kp⟩ := M1; exact kp.size
      clear M1
      refine ⟨trivial, ?_⟩
      refine wpT_run (i := 13) (by kernel_rfl) rfl rfl ?_
      go_simp
      refine ⟨trivial, ?_⟩
      refine wpT_run (i := 14) (by kernel_rfl) rfl rfl ?_
      have O1 : Hid (w1.ownsRow w.heap.size 3 1 u4 j (ints (List.range' m.cnt j))) := by
        obtain ⟨_, _, _, kp⟩ := M.out
        refine own_of_blocks C.out.own (fun k q => kp.block k (C.out.own.lt k q).2 (fun r => ?_))
        obtain ⟨d, hd⟩ := own_kind C.out.own k q
        rcases r with r | r
        · have := S3.out.pc; rw [← r, hd] at this; simp at this
        · obtain ⟨d', hd'⟩ := own_kind S3.out.r3 _ r; rw [hd] at hd'; simp at hd'
      refine wp_app2 (.tmp 20) (.tmp 33) 27 rfl w.heap.size 3 _ 1 8 Try.underlying27 Try.infoInt rfl (by decide) u4 j _ rfl (O1.out.alloc _) _ 1 [.int .i64 (m.cnt + j : Nat)] rfl (sl_new _ _ _ _ _) rfl (by simp [Value.oneCell']) (.inr (.inr (by decide))) (by omega) (by decide) (by simp; omega) ?_
      intro x2 w2 hown2 hg2 _
      have N2 := Lib.hid (C.out.next H.out HF.out HW.out hjl S3.out S3F.out (by rw [HXX.out, HVX.out]; exact M.out) hown2 hg2)
      clear hown2 hg2
      refine ⟨trivial, ?_⟩
      simp only [Act.put, List.setIfInBounds_toArray, List.set_cons_zero, List.set_cons_succ]
      refine wpT_take (i := 15) (v := ?vb15) rfl (by kernel_rfl) (fun _ _ _ h => h) rfl ?yb15 ?rb15
      case yb15 => ((intro wz; go_simp); try with_reducible rfl)
      try simp only [Act.put, List.setIfInBounds_toArray, List.set_cons_zero, List.set_cons_succ]
      refine wpT_done (by kernel_rfl) ?_ _
      go_wp2
      go_roundg (gk - 1)
      case measure => omega
      case rel => exact ⟨j + 1, by have := HJ.out; omega, by go_num, N2.out⟩
set_option maxHeartbeats 2000000 in
theorem copies_13 {w : World} {B g : Nat} {F : Nat → Prop} {m : Md} (h : ST w B g F m) (hw : WF m) {elem mark : Int} {v : Vl} {l o : Nat} (hl : m.isL l = true) (ho : m.isL o = true) (hlen : m.len ≤ 4611686018427387904) (hroom : m.cnt + (m.seq o).length ≤ 500) (hsz : (m.seq l).length ≤ 1000000) :
    Calls Try.prog 101 #[.pointer (some ⟨g, 0, none⟩), Cl.agg' ⟨13, l, o, elem, mark, v⟩] w fun r w' => r = .returned (.tuple #[]) ∧ SP w w' B g F (m.copies ⟨13, l, o, elem, mark, v⟩) := by
  have hll := hw.isl l hl
  have hoo := hw.isl o ho
  have hxs : ∀ x ∈ m.seq o, x < m.cnt := fun x q => hw.lt q
  obtain ⟨v0, v1, v2, v3, ls, hs, hf, hF⟩ := h
  have c1 := fun z => (hs.alloc z).c1
  obtain ⟨b1, cap1, rfl, _, _⟩ := hs.at1 hll
  have co : ∀ z, (w.alloc z).cell? ⟨b1, o, none⟩ = some (ls o) := fun z => by
    obtain ⟨b, cap, q, c, _⟩ := (hs.alloc z).at1 hoo; simp at q; obtain ⟨rfl, _⟩ := q; exact c
  have H := Lib.hid hs; have HF := Lib.hid hf; have HW := Lib.hid hw; have HX := Lib.hid hxs
  have START := fun n => Lib.hid (CopyAt.start hs hf ⟨13, l, o, elem, mark, v⟩ l (m.seq o) n)
  obtain ⟨ao, capo, hlo⟩ := (hs.ll o hoo).form
  have HLO := Lib.hid hlo
  have eC : m.copies ⟨13, l, o, elem, mark, v⟩ = (m.copy l (m.seq o)).setSeq l (List.range' m.cnt (m.seq o).length ++ m.seq l) := by simp [Md.copies]
  rw [eC]
  rw [hlo] at co
  unfold Cl.agg'
  simp only [Cl.arr] at START
  clear hs hf hF hw hxs eC hlo
  go_enter Try.func101, Try.ntmps101
  go_wp2
  go_quiet (fail)
  go_wp2_with fail
  go_loopg [4, 16] (m.seq o).length (fun n fresh k wr => ∃ j : Nat, j + n = (m.seq o).length ∧ k = .int .i64 j ∧ CopyAt w wr B g F m ⟨13, l, o, elem, mark, v⟩ v0 (.slice (some ⟨b1, 0, none⟩) m.len cap1) v2 ls l (m.seq o) j fresh)
  case atStart => exact ⟨0, by omega, rfl, (START _).out⟩
  case round =>
    clear START c1 co
    obtain ⟨j, hj, rfl, hC⟩ := hrel
    by_cases hk0 : gk = 0
    · subst hk0
      obtain rfl : j = (m.seq o).length := by omega
      clear hj
      have y0 := hC.cell (t := 0) rfl
      have y1 := hC.cell (t := 1) rfl
      obtain ⟨v3', hs3, h3F⟩ := hC.sr
      have c1 := hs3.c1
      have cl : wr.cell? ⟨b1, l, none⟩ = some (ls l) := by
        obtain ⟨b, cap, q, c, _⟩ := hs3.at1 hll; simp at q; obtain ⟨rfl, _⟩ := q; exact c
      have fz : wr.frozen? ⟨b1, l, none⟩ = false := hs3.r1.frozenAt l
      have hr : IRow wr (ls l) (m.seq l) := hs3.ll l hll
      have C := Lib.hid hC; have S3 := Lib.hid hs3
      have szw := hC.keeps.size
      have hv2 : ∀ b, v2.ownBlock = some b → b < w.heap.size := fun b q => (H.out.lt (.inr (.inr (.inr (.inl q))))).2
      have HV2 := Lib.hid hv2
      have hnb : ∀ k, u4.ownBlock = some k → ¬ (k = g ∨ k = b1 ∨ k = w.heap.size) := by
        intro k q
        obtain ⟨d, hd⟩ := own_kind hC.own k q
        rintro (r | r | r)
        · have := hs3.pc; rw [← r, hd] at this; simp at this
        · obtain ⟨d', hd'⟩ := own_kind hs3.r1 b1 rfl; rw [← r, hd] at hd'; simp at hd'
        · have := hC.box; rw [← r, hd] at this; simp at this
      have HNB := Lib.hid hnb
      have TL : (m.seq o).take (m.seq o).length = m.seq o := List.take_length
      have HTL := Lib.hid TL
      have lg : g < wr.heap.size := (hs3.lt (.inl rfl)).2
      have lb1 : b1 < wr.heap.size := World.block_lt_of_cell? wr _ cl
      have lN : w.heap.size < wr.heap.size := (Array.getElem?_eq_some_iff.1 hC.box).1
      have hcap : ls l = .slice none (m.seq l).length 0 ∨ (ls l).ownBlock ≠ none ∨ (m.seq l).length ≠ 0 := by
        rcases hr with ⟨hx, hn⟩ | ⟨b, cap, c, hx, _⟩
        · left; rw [hx, hn]; rfl
        · right; left; rw [hx]; simp [Value.ownBlock]
      have SLX : Hid (Sl wr.drew (ls l) (m.seq l).length (ints (m.seq l))) := hr.sl
      clear hC hs3 h3F hnb hv2 TL hr
      go_wp2_with fail
      refine wp_region_T (fun w' => w'.cell? ⟨g, 1, none⟩ = some (.slice (some ⟨b1, 0, none⟩) m.len cap1) ∧ w'.cell? ⟨b1, l, none⟩ = some (ls l) ∧ w'.cell? ⟨w.heap.size, 1, none⟩ = some (.int .i64 (l : Nat))) [15] [17] run_mixed ?_
      simp only [List.size_toArray, List.length_cons, List.length_nil]
      have HS : wr.drew.cell? ⟨g, 1, none⟩ = some (.slice (some ⟨b1, 0, none⟩) m.len cap1) ∧ wr.drew.cell? ⟨b1, l, none⟩ = some (ls l) ∧ wr.drew.cell? ⟨w.heap.size, 1, none⟩ = some (.int .i64 (l : Nat)) := ⟨c1, cl, y1⟩
      refine wpT_take (i := 0) (v := ?vf0) rfl (by kernel_rfl) (fun _ _ _ h => h) rfl ?yf0 ?rf0
      case yf0 => ((intro wz; go_simp); try with_reducible rfl)
      try simp only [Act.put, List.setIfInBounds_toArray, List.set_cons_zero, List.set_cons_succ]
      refine wpT_take (i := 1) (v := ?vf1) rfl (by kernel_rfl) (fun _ _ _ h => h) rfl ?yf1 ?rf1
      case yf1 => ((intro wz; go_simp); try with_reducible rfl)
      try simp only [Act.put, List.setIfInBounds_toArray, List.set_cons_zero, List.set_cons_succ]
      refine wpT_take (i := 2) (v := ?vf2) rfl (by kernel_rfl) (fun _ _ _ h => h) rfl ?yf2 ?rf2
      case yf2 => ((intro wz; go_simp); try with_reducible rfl)
      try simp only [Act.put, List.setIfInBounds_toArray, List.set_cons_zero, List.set_cons_succ]
      refine wpT_load (i := 3) (v := ?vf3) rfl (by kernel_rfl) (fun _ _ _ h => h) rfl ?yf3 HS ?rf3
      case yf3 => ((intro wz hSw; (try dsimp only at hSw); go_split_ands; go_simp); try with_reducible rfl)
      try simp only [Act.put, List.setIfInBounds_toArray, List.set_cons_zero, List.set_cons_succ]
      refine wpT_take (i := 4) (v := ?vf4) rfl (by kernel_rfl) (fun _ _ _ h => h) rfl ?yf4 ?rf4
      case yf4 => ((intro wz; go_simp); try with_reducible rfl)
      try simp only [Act.put, List.setIfInBounds_toArray, List.set_cons_zero, List.set_cons_succ]
      refine wpT_load (i := 5) (v := ?vf5) rfl (by kernel_rfl) (fun _ _ _ h => h) rfl ?yf5 HS ?rf5
      case yf5 => ((intro wz hSw; (try dsimp only at hSw); go_split_ands; go_simp); try with_reducible rfl)
      try simp only [Act.put, List.setIfInBounds_toArray, List.set_cons_zero, List.set_cons_succ]
      refine wpT_take (i := 6) (v := ?vf6) rfl (by kernel_rfl) (fun _ _ _ h => h) rfl ?yf6 ?rf6
      case yf6 => ((intro wz; go_simp); try with_reducible rfl)
      try simp only [Act.put, List.setIfInBounds_toArray, List.set_cons_zero, List.set_cons_succ]
      refine wpT_take (i := 7) (v := ?vf7) rfl (by kernel_rfl) (fun _ _ _ h => h) rfl ?yf7 ?rf7
      case yf7 => ((intro wz; go_simp); try with_reducible rfl)
      try simp only [Act.put, List.setIfInBounds_toArray, List.set_cons_zero, List.set_cons_succ]
      refine wpT_take (i := 8) (v := ?vf8) rfl (by kernel_rfl) (fun _ _ _ h => h) rfl ?yf8 ?rf8
      case yf8 => ((intro wz; go_simp); try with_reducible rfl)
      try simp only [Act.put, List.setIfInBounds_toArray, List.set_cons_zero, List.set_cons_succ]
      refine wpT_take (i := 9) (v := ?vf9) rfl (by kernel_rfl) (fun _ _ _ h => h) rfl ?yf9 ?rf9
      case yf9 => ((intro wz; go_simp); try with_reducible rfl)
      try simp only [Act.put, List.setIfInBounds_toArray, List.set_cons_zero, List.set_cons_succ]
      refine wpT_load (i := 10) (v := ?vf10) rfl (by kernel_rfl) (fun _ _ _ h => h) rfl ?yf10 HS ?rf10
      case yf10 => ((intro wz hSw; (try dsimp only at hSw); go_split_ands; go_simp); try with_reducible rfl)
      try simp only [Act.put, List.setIfInBounds_toArray, List.set_cons_zero, List.set_cons_succ]
      refine wpT_take (i := 11) (v := ?vf11) rfl (by kernel_rfl) (fun _ _ _ h => h) rfl ?yf11 ?rf11
      case yf11 => ((intro wz; go_simp); try with_reducible rfl)
      try simp only [Act.put, List.setIfInBounds_toArray, List.set_cons_zero, List.set_cons_succ]
      refine wpT_load (i := 12) (v := ?vf12) rfl (by kernel_rfl) (fun _ _ _ h => h) rfl ?yf12 HS ?rf12
      case yf12 => ((intro wz hSw; (try dsimp only at hSw); go_split_ands; go_simp); try with_reducible rfl)
      try simp only [Act.put, List.setIfInBounds_toArray, List.set_cons_zero, List.set_cons_succ]
      refine wpT_take (i := 13) (v := ?vf13) rfl (by kernel_rfl) (fun _ _ _ h => h) rfl ?yf13 ?rf13
      case yf13 => ((intro wz; go_simp); try with_reducible rfl)
      try simp only [Act.put, List.setIfInBounds_toArray, List.set_cons_zero, List.set_cons_succ]
      refine wpT_load (i := 14) (v := ?vf14) rfl (by kernel_rfl) (fun _ _ _ h => h) rfl ?yf14 HS ?rf14
      case yf14 => ((intro wz hSw; (try dsimp only at hSw); go_split_ands; go_simp); try with_reducible rfl)
      try simp only [Act.put, List.setIfInBounds_toArray, List.set_cons_zero, List.set_cons_succ]
      refine wpT_run (i := 15) (by kernel_rfl) rfl rfl ?_
      refine wp_app2 (.tmp 81) (.tmp 89) 27 rfl w.heap.size 3 _ 1 8 Try.underlying27 Try.infoInt rfl (by decide) u4 (m.seq o).length _ rfl C.out.own.drew (ls l) (m.seq l).length (ints (m.seq l)) rfl SLX.out (by rw [ints_length]; simp) (ints_one _) hcap (by omega) (by decide) (by simpa using szw) ?_
      intro x3 w3 hown3 hg3' _
      have hg3 := grown_undrew hg3'
      obtain ⟨a3, cap3, rfl⟩ := own_len hown3
      have q1 : w3.cell? ⟨g, 1, none⟩ = some (.slice (some ⟨b1, 0, none⟩) m.len cap1) := (World.cell?_of_block (hg3.block g lg (by exact fun q => HNB.out g q.symm (.inl rfl)))).trans c1
      have q2 : w3.cell? ⟨b1, l, none⟩ = some (ls l) := (World.cell?_of_block (hg3.block b1 lb1 (by exact fun q => HNB.out b1 q.symm (.inr (.inl rfl))))).trans cl
      have q3 : w3.cell? ⟨w.heap.size, 1, none⟩ = some (.int .i64 (l : Nat)) := (World.cell?_of_block (hg3.block w.heap.size lN (by exact fun q => HNB.out w.heap.size q.symm (.inr (.inr rfl))))).trans y1
      have q4 : w3.frozen? ⟨b1, l, none⟩ = false := (World.frozen?_of_block (hg3.block b1 lb1 (by exact fun q => HNB.out b1 q.symm (.inr (.inl rfl))))).trans fz
      have O3 : w3.ownsRow w.heap.size 3 1 (.slice a3 ((m.seq o).length + (m.seq l).length) cap3) (List.range' m.cnt (m.seq o).length ++ m.seq l).length (ints (List.range' m.cnt (m.seq o).length ++ m.seq l)) := by
        rw [List.length_append, List.length_range', ints_append]; exact hown3
      have FIN0 := C.out.fin H.out HF.out hll hg3 (.inr rfl) (IRow.of_own O3) (fun b q r => by have := (O3.lt b q).1; have := HV2.out b r; omega)
      rw [HTL.out] at FIN0
      have FIN := Lib.hid FIN0
      clear hown3 hg3 hg3' O3 FIN0
      refine ⟨cond_R (by decide) (by decide) ⟨q1, q2, q3⟩, ?_⟩
      simp only [Act.put, List.setIfInBounds_toArray, List.set_cons_zero, List.set_cons_succ]
      refine wpT_take (i := 16) (v := ?vg16) rfl (by kernel_rfl) (fun _ _ _ h => h) rfl ?yg16 ?rg16
      case yg16 => ((intro wz; go_simp); try with_reducible rfl)
      try simp only [Act.put, List.setIfInBounds_toArray, List.set_cons_zero, List.set_cons_succ]
      refine wpT_run (i := 17) (by kernel_rfl) rfl rfl ?_
      go_simp
      refine ⟨trivial, wpT_done (by kernel_rfl) ?_ _⟩
      first | go_end0 | (refine bodyPost_ret (results_none rfl _ _ _) rfl ?_)
      exact ⟨rfl, FIN.out⟩
    · have hjl : j < (m.seq o).length := by omega
      obtain ⟨v3', hs3, h3F⟩ := hC.sr
      have hx := HX.out (m.seq o)[j] (List.getElem_mem hjl)
      have lT : ((m.seq o).take j).length = j := by simp; omega
      have hxc : (m.seq o)[j] < (m.copy l ((m.seq o).take j)).cnt := by simp only [Md.copy, lT]; omega
      have c3 := hs3.c3
      obtain ⟨b3, cap3, rfl, ce, _⟩ := hs3.at3 hxc
      have evl : (m.copy l ((m.seq o).take j)).val (m.seq o)[j] = m.val (m.seq o)[j] := by simp only [Md.copy]; rw [if_neg (by omega)]
      have e0 := ce 0 _ rfl; have e1 := ce 1 _ rfl; have e2 := ce 2 _ rfl
      rw [evl] at e0 e1 e2
      simp only [Nat.add_zero] at e0
      have ec : (m.copy l ((m.seq o).take j)).cnt = m.cnt + j := by simp only [Md.copy, lT]
      rw [ec] at c3
      have y1 := hC.cell (t := 1) rfl
      have hne : m.seq o ≠ [] := by intro q; rw [q] at hjl; simp at hjl
      obtain ⟨bo, cpo, hxo, hco⟩ := (hs3.ll o hoo).get hne
      have hxo2 := HLO.out
      rw [hxo] at hxo2
      simp only [Value.slice.injEq] at hxo2
      obtain ⟨rfl, _, rfl⟩ := hxo2
      have cj : wr.cell? ⟨bo, j, none⟩ = some (.int .i64 ((m.seq o)[j] : Nat)) := hco j _ (List.getElem?_eq_getElem hjl)
      have hclr : (m.copy l ((m.seq o).take j)).clr (m.cnt + j) = none := (HW.out.out (m.cnt + j) (by omega)).2.1
      have hfst : (m.copy l ((m.seq o).take j)).fst (m.cnt + j) = none := (HW.out.out (m.cnt + j) (by omega)).2.2
      have MK := Lib.hid (make_s hs3.drew (m.val (m.seq o)[j]) (some l) (by rw [ec]; exact hclr) (by rw [ec]; exact hfst) (by rw [ec]; omega))
      rw [ec, optI_some] at MK
      have C := Lib.hid hC; have S3 := Lib.hid hs3; have S3F := Lib.hid h3F; have HJ := Lib.hid hj
      have hsz2 := hC.keeps.size
      have hxI : (((m.seq o)[j] : Nat) : Int) < (m.cnt : Int) + (j : Int) := by omega
      have hxI2 : (m.seq o)[j] < m.cnt + j := by omega
      clear hC hs3 h3F hclr hfst hco ce evl hj hxo hne lT
      unfold Vl.agg at MK
      generalize hxx : (m.seq o)[j] = x at *
      generalize hvx : m.val x = vx at *
      have HXX := Lib.hid hxx; have HVX := Lib.hid hvx
      clear hxx hvx
      go_wp2_with fail
      refine wp_region_T (fun w' => w'.cell? ⟨g, 3, none⟩ = some (.slice (some ⟨b3, 0, none⟩) (m.cnt + j) cap3) ∧ w'.cell? ⟨b3, x * 6, none⟩ = some (.int .i64 vx.kind) ∧ w'.cell? ⟨b3, x * 6 + 1, none⟩ = some (.int .i64 vx.n) ∧ w'.cell? ⟨b3, x * 6 + 2, none⟩ = some (.string vx.s) ∧ w'.cell? ⟨w.heap.size, 1, none⟩ = some (.int .i64 (l : Nat))) [] [12, 13, 14] run_mixed ?_
      simp only [List.size_toArray, List.length_cons, List.length_nil]
      have HS : wr.drew.cell? ⟨g, 3, none⟩ = some (.slice (some ⟨b3, 0, none⟩) (m.cnt + j) cap3) ∧ wr.drew.cell? ⟨b3, x * 6, none⟩ = some (.int .i64 vx.kind) ∧ wr.drew.cell? ⟨b3, x * 6 + 1, none⟩ = some (.int .i64 vx.n) ∧ wr.drew.cell? ⟨b3, x * 6 + 2, none⟩ = some (.string vx.s) ∧ wr.drew.cell? ⟨w.heap.size, 1, none⟩ = some (.int .i64 (l : Nat)) := ⟨c3, e0, e1, e2, y1⟩
      refine wpT_take (i := 0) (v := ?va0) rfl (by kernel_rfl) (fun _ _ _ h => h) rfl ?ya0 ?ra0
      case ya0 => ((intro wz; go_simp); try with_reducible rfl)
      try simp only [Act.put, List.setIfInBounds_toArray, List.set_cons_zero, List.set_cons_succ]
      refine wpT_take (i := 1) (v := ?va1) rfl (by kernel_rfl) (fun _ _ _ h => h) rfl ?ya1 ?ra1
      case ya1 => ((intro wz; go_simp); try with_reducible rfl)
      try simp only [Act.put, List.setIfInBounds_toArray, List.set_cons_zero, List.set_cons_succ]
      refine wpT_take (i := 2) (v := ?va2) rfl (by kernel_rfl) (fun _ _ _ h => h) rfl ?ya2 ?ra2
      case ya2 => ((intro wz; go_simp); try with_reducible rfl)
      try simp only [Act.put, List.setIfInBounds_toArray, List.set_cons_zero, List.set_cons_succ]
      refine wpT_take (i := 3) (v := ?va3) rfl (by kernel_rfl) (fun _ _ _ h => h) rfl ?ya3 ?ra3
      case ya3 => ((intro wz; go_simp); try with_reducible rfl)
      try simp only [Act.put, List.setIfInBounds_toArray, List.set_cons_zero, List.set_cons_succ]
      refine wpT_take (i := 4) (v := ?va4) rfl (by kernel_rfl) (fun _ _ _ h => h) rfl ?ya4 ?ra4
      case ya4 => ((intro wz; go_simp); try with_reducible rfl)
      try simp only [Act.put, List.setIfInBounds_toArray, List.set_cons_zero, List.set_cons_succ]
      refine wpT_load (i := 5) (v := ?va5) rfl (by kernel_rfl) (fun _ _ _ h => h) rfl ?ya5 HS ?ra5
      case ya5 => ((intro wz hSw; (try dsimp only at hSw); go_split_ands; go_simp); try with_reducible rfl)
      try simp only [Act.put, List.setIfInBounds_toArray, List.set_cons_zero, List.set_cons_succ]
      refine wpT_take (i := 6) (v := ?va6) rfl (by kernel_rfl) (fun _ _ _ h => h) rfl ?ya6 ?ra6
      case ya6 => ((intro wz; go_simp); try with_reducible rfl)
      try simp only [Act.put, List.setIfInBounds_toArray, List.set_cons_zero, List.set_cons_succ]
      refine wpT_take (i := 7) (v := ?va7) rfl (by kernel_rfl) (fun _ _ _ h => h) rfl ?ya7 ?ra7
      case ya7 => ((intro wz; go_simp); try with_reducible rfl)
      try simp only [Act.put, List.setIfInBounds_toArray, List.set_cons_zero, List.set_cons_succ]
      refine wpT_take (i := 8) (v := ?va8) rfl (by kernel_rfl) (fun _ _ _ h => h) rfl ?ya8 ?ra8
      case ya8 => ((intro wz; go_simp); try with_reducible rfl)
      try simp only [Act.put, List.setIfInBounds_toArray, List.set_cons_zero, List.set_cons_succ]
      refine wpT_load (i := 9) (v := ?va9) rfl (by kernel_rfl) (fun _ _ _ h => h) rfl ?ya9 HS ?ra9
      case ya9 => ((intro wz hSw; (try dsimp only at hSw); go_split_ands; go_simp); try with_reducible rfl)
      try simp only [Act.put, List.setIfInBounds_toArray, List.set_cons_zero, List.set_cons_succ]
      refine wpT_take (i := 10) (v := ?va10) rfl (by kernel_rfl) (fun _ _ _ h => h) rfl ?ya10 ?ra10
      case ya10 => ((intro wz; go_simp); try with_reducible rfl)
      try simp only [Act.put, List.setIfInBounds_toArray, List.set_cons_zero, List.set_cons_succ]
      refine wpT_load (i := 11) (v := ?va11) rfl (by kernel_rfl) (fun _ _ _ h => h) rfl ?ya11 HS ?ra11
      case ya11 => ((intro wz hSw; (try dsimp only at hSw); go_split_ands; go_simp); try with_reducible rfl)
      try simp only [Act.put, List.setIfInBounds_toArray, List.set_cons_zero, List.set_cons_succ]
      refine wpT_run (i := 12) (by kernel_rfl) rfl rfl ?_
      go_simp
      refine MK.out.mono ?_
      rintro r w1 ⟨rfl, M1⟩
      have M := Lib.hid M1.undrew
      have sz1 : wr.heap.size ≤ w1.heap.size := by obtain ⟨_, _, _, kp⟩ := M1; exact kp.size
      clear M1
      refine ⟨trivial, ?_⟩
      refine wpT_run (i := 13) (by kernel_rfl) rfl rfl ?_
      go_simp
      refine ⟨trivial, ?_⟩
      refine wpT_run (i := 14) (by kernel_rfl) rfl rfl ?_
      have O1 : Hid (w1.ownsRow w.heap.size 3 1 u4 j (ints (List.range' m.cnt j))) := by
        obtain ⟨_, _, _, kp⟩ := M.out
        refine own_of_blocks C.out.own (fun k q => kp.block k (C.out.own.lt k q).2 (fun r => ?_))
        obtain ⟨d, hd⟩ := own_kind C.out.own k q
        rcases r with r | r
        · have := S3.out.pc; rw [← r, hd] at this; simp at this
        · obtain ⟨d', hd'⟩ := own_kind S3.out.r3 _ r; rw [hd] at hd'; simp at hd'
      refine wp_app2 (.tmp 20) (.tmp 33) 27 rfl w.heap.size 3 _ 1 8 Try.underlying27 Try.infoInt rfl (by decide) u4 j _ rfl (O1.out.alloc _) _ 1 [.int .i64 (m.cnt + j : Nat)] rfl (sl_new _ _ _ _ _) rfl (by simp [Value.oneCell']) (.inr (.inr (by decide))) (by omega) (by decide) (by simp; omega) ?_
      intro x2 w2 hown2 hg2 _
      have N2 := Lib.hid (C.out.next H.out HF.out HW.out hjl S3.out S3F.out (by rw [HXX.out, HVX.out]; exact M.out) hown2 hg2)
      clear hown2 hg2
      refine ⟨trivial, ?_⟩
      simp only [Act.put, List.setIfInBounds_toArray, List.set_cons_zero, List.set_cons_succ]
      refine wpT_take (i := 15) (v := ?vb15) rfl (by kernel_rfl) (fun _ _ _ h => h) rfl ?yb15 ?rb15
      case yb15 => ((intro wz; go_simp); try with_reducible rfl)
      try simp only [Act.put, List.setIfInBounds_toArray, List.set_cons_zero, List.set_cons_succ]
      refine wpT_done (by kernel_rfl) ?_ _
      go_wp2
      go_roundg (gk - 1)
      case measure => omega
      case rel => exact ⟨j + 1, by have := HJ.out; omega, by go_num, N2.out⟩
end Bead
end Go.Proofs.Ytidnmanljdadaaa
