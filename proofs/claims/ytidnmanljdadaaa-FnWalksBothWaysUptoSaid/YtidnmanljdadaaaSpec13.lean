/- The reference's method look (printed by gen_spec12.py). -/
import Derived.Test.YtidnmanljdadaaaSpec12
set_option linter.all false
namespace Go.Proofs.Ytidnmanljdadaaa
open Go.RowKit
namespace Bead
set_option maxRecDepth 100000

set_option maxHeartbeats 1000000 in
theorem lk_0 {w : World} {B g : Nat} {F : Nat → Prop} {m : Md} (h : ST w B g F m) (hw : WF m) {i : Nat} (hi : i < m.len) (hlen : m.len ≤ 4611686018427387904) (hcnt : m.cnt ≤ 500) (hsz : ∀ l, (m.seq l).length ≤ 500) {list other elem mark : Int} {v : Vl} :
    Calls Try.prog 54 #[.pointer (some ⟨g, 0, none⟩), .int .i64 i, Cl.agg' ⟨0, list, other, elem, mark, v⟩] w fun r w' => r = .returned (m.look i ⟨0, list, other, elem, mark, v⟩).2.agg' ∧ SP w w' B g F (m.look i ⟨0, list, other, elem, mark, v⟩).1 := by
  have F0 := FrA.start h ⟨0, list, other, elem, mark, v⟩
  have FA := Lib.hid F0; have HW := Lib.hid hw
  obtain ⟨v0, v1, v2, v3, ls, hs, hf, hF⟩ := F0.sp.st
  have c0 := hs.c0
  obtain ⟨b0, cap0, rfl, cb, fz⟩ := hs.at0 hi
  have hs2 := hs.set0 i true rfl
  have lb : b0 < ((w.alloc (.cells (Cl.arr ⟨0, list, other, elem, mark, v⟩) 79)).alloc sAnsBlock).heap.size := (hs.lt (.inr (.inl rfl))).2
  have lb2 : b0 < w.heap.size ∨ True := .inr trivial
  have F2 := Lib.hid (F0.next (SP.stored hf hF hs2 ((Keeps.refl _ _).setCell (p := ⟨b0, i, none⟩) (fun _ => hf b0 (.inr (.inl rfl))) _)))
  obtain ⟨f5, d0, d1, d2, d3, d4⟩ := F2.out.acells
  have e9 : m.look i ⟨0, list, other, elem, mark, v⟩ = ({ m with isL := upd m.isL i true }, An.no) := rfl
  rw [e9]
  unfold Cl.agg'
  simp only [Cl.arr, sAnsBlock] at c0 cb fz f5 d0 d1 d2 d3 d4 lb
  clear h hw hs hs2 hf hF F0 e9 lb2
  go_enter Try.func54, Try.ntmps54
  go_wp2
  refine bodyPost_ret (v := An.no.agg') ?_ rfl ⟨rfl, F2.out.fin An.no⟩
  simp [results, Try.results54, go_sem, An.agg', An.no, Vl.zero, f5, d0, d1, d2, d3, d4]
  rfl

set_option maxHeartbeats 1000000 in
theorem lk_1 {w : World} {B g : Nat} {F : Nat → Prop} {m : Md} (h : ST w B g F m) (hw : WF m) {i : Nat} (hi : i < m.len) (hlen : m.len ≤ 4611686018427387904) (hcnt : m.cnt ≤ 500) (hsz : ∀ l, (m.seq l).length ≤ 500) {list other elem mark : Int} {v : Vl} :
    Calls Try.prog 54 #[.pointer (some ⟨g, 0, none⟩), .int .i64 i, Cl.agg' ⟨1, list, other, elem, mark, v⟩] w fun r w' => r = .returned (m.look i ⟨1, list, other, elem, mark, v⟩).2.agg' ∧ SP w w' B g F (m.look i ⟨1, list, other, elem, mark, v⟩).1 := by
  have F0 := FrA.start h ⟨1, list, other, elem, mark, v⟩
  have FA := Lib.hid F0; have HW := Lib.hid hw
  obtain ⟨v0, v1, v2, v3, ls, hs, hf, hF⟩ := F0.sp.st
  have c0 := hs.c0
  obtain ⟨b0, cap0, rfl, cb, fz⟩ := hs.at0 hi
  have hs2 := hs.set0 i true rfl
  have lb : b0 < ((w.alloc (.cells (Cl.arr ⟨1, list, other, elem, mark, v⟩) 79)).alloc sAnsBlock).heap.size := (hs.lt (.inr (.inl rfl))).2
  have lb2 : b0 < w.heap.size ∨ True := .inr trivial
  have F2 := Lib.hid (F0.next (SP.stored hf hF hs2 ((Keeps.refl _ _).setCell (p := ⟨b0, i, none⟩) (fun _ => hf b0 (.inr (.inl rfl))) _)))
  obtain ⟨f5, d0, d1, d2, d3, d4⟩ := F2.out.acells
  have e9 : m.look i ⟨1, list, other, elem, mark, v⟩ = ({ m with isL := upd m.isL i true }, An.no) := rfl
  rw [e9]
  unfold Cl.agg'
  simp only [Cl.arr, sAnsBlock] at c0 cb fz f5 d0 d1 d2 d3 d4 lb
  clear h hw hs hs2 hf hF F0 e9 lb2
  go_enter Try.func54, Try.ntmps54
  go_wp2
  refine bodyPost_ret (v := An.no.agg') ?_ rfl ⟨rfl, F2.out.fin An.no⟩
  simp [results, Try.results54, go_sem, An.agg', An.no, Vl.zero, f5, d0, d1, d2, d3, d4]
  rfl

set_option maxHeartbeats 1000000 in
theorem lk_2 {w : World} {B g : Nat} {F : Nat → Prop} {m : Md} (h : ST w B g F m) (hw : WF m) {i : Nat} (hi : i < m.len) (hlen : m.len ≤ 4611686018427387904) (hcnt : m.cnt ≤ 500) (hsz : ∀ l, (m.seq l).length ≤ 500) {list other elem mark : Int} {v : Vl} (hmk : m.cnt < 500) :
    Calls Try.prog 54 #[.pointer (some ⟨g, 0, none⟩), .int .i64 i, Cl.agg' ⟨2, list, other, elem, mark, v⟩] w fun r w' => r = .returned (m.look i ⟨2, list, other, elem, mark, v⟩).2.agg' ∧ SP w w' B g F (m.look i ⟨2, list, other, elem, mark, v⟩).1 := by
  have F0 := FrA.start h ⟨2, list, other, elem, mark, v⟩
  have FA := Lib.hid F0; have HW := Lib.hid hw
  clear h hw F0
  unfold Cl.agg'
  go_enter Try.func54, Try.ntmps54
  go_wp2_with fail
  refine (make_c FA.out.sp.st v none (HW.out.out m.cnt (Nat.le_refl _)).2.1 (HW.out.out m.cnt (Nat.le_refl _)).2.2 (by omega)).mono ?_
  rintro r w1 ⟨rfl, S1⟩
  have F1 := Lib.hid (FA.out.next S1)
  clear S1
  go_wp2_with fail
  refine (answer_some (i := i) (e := m.cnt) F1.out.sp.st hi (Nat.lt_succ_self m.cnt) hlen (by show m.cnt + 1 ≤ _; omega)).mono ?_
  rintro r w3 ⟨rfl, S3⟩
  have F3 := Lib.hid (F1.out.next S3)
  clear S3
  obtain ⟨f5, d0, d1, d2, d3, d4⟩ := F3.out.acells
  generalize hq : Md.num _ _ _ = q
  have HQ := Lib.hid hq
  clear hq
  unfold An.agg'
  go_wp2
  refine bodyPost_ret (v := q.agg') ?_ rfl ⟨?_, F3.out.fin q⟩
  · simp [results, Try.results54, go_sem, An.agg', f5, d0, d1, d2, d3, d4]
  · rw [← HQ.out]; try rfl

set_option maxHeartbeats 1000000 in
theorem lk_15 {w : World} {B g : Nat} {F : Nat → Prop} {m : Md} (h : ST w B g F m) (hw : WF m) {i : Nat} (hi : i < m.len) (hlen : m.len ≤ 4611686018427387904) (hcnt : m.cnt ≤ 500) (hsz : ∀ l, (m.seq l).length ≤ 500) {other elem mark : Int} {v : Vl} {l : Nat} (hl : m.isL l = true) :
    Calls Try.prog 54 #[.pointer (some ⟨g, 0, none⟩), .int .i64 i, Cl.agg' ⟨15, l, other, elem, mark, v⟩] w fun r w' => r = .returned (m.look i ⟨15, l, other, elem, mark, v⟩).2.agg' ∧ SP w w' B g F (m.look i ⟨15, l, other, elem, mark, v⟩).1 := by
  have F0 := FrA.start h ⟨15, l, other, elem, mark, v⟩
  have FA := Lib.hid F0; have HW := Lib.hid hw
  have hll := hw.isl l hl
  have hs1 := hsz l
  obtain ⟨v0, v1, v2, v3, ls, hs⟩ := F0.sp.sr
  have hrow := hs.ll l hll
  have c1 := hs.c1
  obtain ⟨b1, cap1, rfl, cl, _⟩ := hs.at1 hll
  have AC := fun n => (F0.drewN n).acells
  simp only [Cl.arr, sAnsBlock] at c1 cl AC
  unfold Cl.agg'
  by_cases hne : m.seq l = []
  · obtain ⟨al, capl, hx⟩ := hrow.form
    rw [hx, hne] at cl
    simp only [List.length_nil] at cl
    have e9 : m.look i ⟨15, l, other, elem, mark, v⟩ = (m, An.no) := by
      show m.answer i (m.seq l).head? = _
      rw [hne]; rfl
    rw [e9]
    clear h hw hs F0 e9 hrow hx hne
    go_enter Try.func54, Try.ntmps54
    go_wp2
    go_quiet (fail)
    go_wp2
    refine bodyPost_ret (v := An.no.agg') ?_ rfl ⟨rfl, (FA.out.drewN _).fin An.no⟩
    simp [results, Try.results54, go_sem, An.agg', An.no, Vl.zero, AC]
    rfl
  · obtain ⟨bl, capl, hx, hc⟩ := hrow.get hne
    rw [hx] at cl
    have hpos : 0 < (m.seq l).length := List.length_pos_iff.2 hne
    obtain ⟨x, hx0⟩ : ∃ x, (m.seq l)[0]? = some x := ⟨_, List.getElem?_eq_getElem hpos⟩
    have hxc : x < m.cnt := hw.lt (l := l) (List.mem_of_getElem? hx0)
    have cx := hc _ x hx0
    have e9 : m.look i ⟨15, l, other, elem, mark, v⟩ = (m.give i x, m.num i x) := by
      show m.answer i (m.seq l).head? = _
      rw [List.head?_eq_getElem?, hx0]; rfl
    rw [e9]
    have dz : (((m.seq l).length : Int) == 0) = false := by simp; exact hne
    generalize hLL : (m.seq l).length = LL at *
    simp only [Cl.arr, sAnsBlock] at cx
    clear h hw hs F0 e9 hrow hx hne hc AC hx0 hLL
    go_enter Try.func54, Try.ntmps54
    go_wp2
    go_quiet (fail)
    go_wp2_with fail
    refine (answer_some (i := i) (e := x) (FA.out.drewN _).sp.st hi hxc hlen (by omega)).mono ?_
    rintro r w3 ⟨rfl, S3⟩
    have F3 := Lib.hid ((FA.out.drewN _).next S3)
    clear S3
    obtain ⟨f5, d0, d1, d2, d3, d4⟩ := F3.out.acells
    generalize hq : Md.num _ _ _ = q
    have HQ := Lib.hid hq
    clear hq
    unfold An.agg'
    go_wp2
    refine bodyPost_ret (v := q.agg') ?_ rfl ⟨?_, F3.out.fin q⟩
    · simp [results, Try.results54, go_sem, An.agg', f5, d0, d1, d2, d3, d4]
    · rw [← HQ.out]; try rfl

set_option maxHeartbeats 1000000 in
theorem lk_16 {w : World} {B g : Nat} {F : Nat → Prop} {m : Md} (h : ST w B g F m) (hw : WF m) {i : Nat} (hi : i < m.len) (hlen : m.len ≤ 4611686018427387904) (hcnt : m.cnt ≤ 500) (hsz : ∀ l, (m.seq l).length ≤ 500) {other elem mark : Int} {v : Vl} {l : Nat} (hl : m.isL l = true) :
    Calls Try.prog 54 #[.pointer (some ⟨g, 0, none⟩), .int .i64 i, Cl.agg' ⟨16, l, other, elem, mark, v⟩] w fun r w' => r = .returned (m.look i ⟨16, l, other, elem, mark, v⟩).2.agg' ∧ SP w w' B g F (m.look i ⟨16, l, other, elem, mark, v⟩).1 := by
  have F0 := FrA.start h ⟨16, l, other, elem, mark, v⟩
  have FA := Lib.hid F0; have HW := Lib.hid hw
  have hll := hw.isl l hl
  have hs1 := hsz l
  obtain ⟨v0, v1, v2, v3, ls, hs⟩ := F0.sp.sr
  have hrow := hs.ll l hll
  have c1 := hs.c1
  obtain ⟨b1, cap1, rfl, cl, _⟩ := hs.at1 hll
  have AC := fun n => (F0.drewN n).acells
  simp only [Cl.arr, sAnsBlock] at c1 cl AC
  unfold Cl.agg'
  by_cases hne : m.seq l = []
  · obtain ⟨al, capl, hx⟩ := hrow.form
    rw [hx, hne] at cl
    simp only [List.length_nil] at cl
    have e9 : m.look i ⟨16, l, other, elem, mark, v⟩ = (m, An.no) := by
      show m.answer i (m.seq l).getLast? = _
      rw [hne]; rfl
    rw [e9]
    clear h hw hs F0 e9 hrow hx hne
    go_enter Try.func54, Try.ntmps54
    go_wp2
    go_quiet (fail)
    go_wp2
    refine bodyPost_ret (v := An.no.agg') ?_ rfl ⟨rfl, (FA.out.drewN _).fin An.no⟩
    simp [results, Try.results54, go_sem, An.agg', An.no, Vl.zero, AC]
    rfl
  · obtain ⟨bl, capl, hx, hc⟩ := hrow.get hne
    rw [hx] at cl
    have hpos : 0 < (m.seq l).length := List.length_pos_iff.2 hne
    obtain ⟨x, hx0⟩ : ∃ x, (m.seq l)[(m.seq l).length - 1]? = some x := ⟨_, List.getElem?_eq_getElem (by omega)⟩
    have hxc : x < m.cnt := hw.lt (l := l) (List.mem_of_getElem? hx0)
    have cx := hc _ x hx0
    have e9 : m.look i ⟨16, l, other, elem, mark, v⟩ = (m.give i x, m.num i x) := by
      show m.answer i (m.seq l).getLast? = _
      rw [List.getLast?_eq_getElem?, hx0]; rfl
    rw [e9]
    have dz : (((m.seq l).length : Int) == 0) = false := by simp; exact hne
    generalize hLL : (m.seq l).length = LL at *
    simp only [Cl.arr, sAnsBlock] at cx
    clear h hw hs F0 e9 hrow hx hne hc AC hx0 hLL
    obtain ⟨K, rfl⟩ : ∃ K, LL = K + 1 := ⟨LL - 1, by omega⟩
    simp only [Nat.add_sub_cancel] at cx
    go_enter Try.func54, Try.ntmps54
    go_wp2
    go_quiet (fail)
    go_wp2_with fail
    refine (answer_some (i := i) (e := x) (FA.out.drewN _).sp.st hi hxc hlen (by omega)).mono ?_
    rintro r w3 ⟨rfl, S3⟩
    have F3 := Lib.hid ((FA.out.drewN _).next S3)
    clear S3
    obtain ⟨f5, d0, d1, d2, d3, d4⟩ := F3.out.acells
    generalize hq : Md.num _ _ _ = q
    have HQ := Lib.hid hq
    clear hq
    unfold An.agg'
    go_wp2
    refine bodyPost_ret (v := q.agg') ?_ rfl ⟨?_, F3.out.fin q⟩
    · simp [results, Try.results54, go_sem, An.agg', f5, d0, d1, d2, d3, d4]
    · rw [← HQ.out]; try rfl

set_option maxHeartbeats 1000000 in
theorem lk_17 {w : World} {B g : Nat} {F : Nat → Prop} {m : Md} (h : ST w B g F m) (hw : WF m) {i : Nat} (hi : i < m.len) (hlen : m.len ≤ 4611686018427387904) (hcnt : m.cnt ≤ 500) (hsz : ∀ l, (m.seq l).length ≤ 500) {other elem mark : Int} {v : Vl} {l : Nat} (hl : m.isL l = true) :
    Calls Try.prog 54 #[.pointer (some ⟨g, 0, none⟩), .int .i64 i, Cl.agg' ⟨17, l, other, elem, mark, v⟩] w fun r w' => r = .returned (m.look i ⟨17, l, other, elem, mark, v⟩).2.agg' ∧ SP w w' B g F (m.look i ⟨17, l, other, elem, mark, v⟩).1 := by
  have F0 := FrA.start h ⟨17, l, other, elem, mark, v⟩
  have FA := Lib.hid F0; have HW := Lib.hid hw
  have hll := hw.isl l hl
  have hs1 := hsz l
  obtain ⟨v0, v1, v2, v3, ls, hs⟩ := F0.sp.sr
  have hrow := hs.ll l hll
  have c1 := hs.c1
  obtain ⟨b1, cap1, rfl, cl, _⟩ := hs.at1 hll
  obtain ⟨al, capl, hx⟩ := hrow.form
  rw [hx] at cl
  have y1 := F0.toFr.cell (j := 1) rfl
  have e9 : m.look i ⟨17, l, other, elem, mark, v⟩ = (m, ⟨-1, (m.seq l).length, Vl.zero⟩) := rfl
  rw [e9]
  have H := Lib.hid h
  unfold Cl.agg'
  simp only [Cl.arr, sAnsBlock] at c1 cl y1
  generalize hLL : (m.seq l).length = LL at *
  clear h hw hs F0 e9 hrow hx hLL
  go_enter Try.func54, Try.ntmps54
  go_wp2_with fail
  refine wp_region_T (fun w' => w'.cell? ⟨g, 1, none⟩ = some (.slice (some ⟨b1, 0, none⟩) m.len cap1) ∧ w'.cell? ⟨b1, l, none⟩ = some (.slice al LL capl) ∧ w'.cell? ⟨w.heap.size, 1, none⟩ = some (.int .i64 (l : Nat))) [] [10] run_mixed ?_
  simp only [List.size_toArray, List.length_cons, List.length_nil]
  have HS : ((w.alloc (.cells #[.int .i64 17, .int .i64 ((l : Nat)), .int .i64 other, .int .i64 elem, .int .i64 mark, .int .i64 v.kind, .int .i64 v.n, .string v.s] 79)).alloc (.cells #[.int .i64 0, .int .i64 0, .int .i64 0, .int .i64 0, .string ⟨#[]⟩] 84)).drew.cell? ⟨g, 1, none⟩ = some (.slice (some ⟨b1, 0, none⟩) m.len cap1) ∧ ((w.alloc (.cells #[.int .i64 17, .int .i64 ((l : Nat)), .int .i64 other, .int .i64 elem, .int .i64 mark, .int .i64 v.kind, .int .i64 v.n, .string v.s] 79)).alloc (.cells #[.int .i64 0, .int .i64 0, .int .i64 0, .int .i64 0, .string ⟨#[]⟩] 84)).drew.cell? ⟨b1, l, none⟩ = some (.slice al LL capl) ∧ ((w.alloc (.cells #[.int .i64 17, .int .i64 ((l : Nat)), .int .i64 other, .int .i64 elem, .int .i64 mark, .int .i64 v.kind, .int .i64 v.n, .string v.s] 79)).alloc (.cells #[.int .i64 0, .int .i64 0, .int .i64 0, .int .i64 0, .string ⟨#[]⟩] 84)).drew.cell? ⟨w.heap.size, 1, none⟩ = some (.int .i64 (l : Nat)) := ⟨c1, cl, y1⟩
  refine wpT_take (i := 0) (v := ?va0) rfl (by kernel_rfl) (fun _ _ _ h => h) rfl ?ya0 ?ra0
  case ya0 => ((intro wz; go_simp); try with_reducible rfl)
  try simp only [Act.put, List.setIfInBounds_toArray, List.set_cons_zero, List.set_cons_succ]
  refine wpT_take (i := 1) (v := ?va1) rfl (by kernel_rfl) (fun _ _ _ h => h) rfl ?ya1 ?ra1
  case ya1 => ((intro wz; go_simp); try with_reducible rfl)
  try simp only [Act.put, List.setIfInBounds_toArray, List.set_cons_zero, List.set_cons_succ]
  refine wpT_take (i := 2) (v := ?va2) rfl (by kernel_rfl) (fun _ _ _ h => h) rfl ?ya2 ?ra2
  case ya2 => ((intro wz; go_simp); try with_reducible rfl)
  try simp only [Act.put, List.setIfInBounds_toArray, List.set_cons_zero, List.set_cons_succ]
  refine wpT_load (i := 3) (v := ?va3) rfl (by kernel_rfl) (fun _ _ _ h => h) rfl ?ya3 HS ?ra3
  case ya3 => ((intro wz hSw; (try dsimp only at hSw); go_split_ands; go_simp); try with_reducible rfl)
  try simp only [Act.put, List.setIfInBounds_toArray, List.set_cons_zero, List.set_cons_succ]
  refine wpT_take (i := 4) (v := ?va4) rfl (by kernel_rfl) (fun _ _ _ h => h) rfl ?ya4 ?ra4
  case ya4 => ((intro wz; go_simp); try with_reducible rfl)
  try simp only [Act.put, List.setIfInBounds_toArray, List.set_cons_zero, List.set_cons_succ]
  refine wpT_load (i := 5) (v := ?va5) rfl (by kernel_rfl) (fun _ _ _ h => h) rfl ?ya5 HS ?ra5
  case ya5 => ((intro wz hSw; (try dsimp only at hSw); go_split_ands; go_simp); try with_reducible rfl)
  try simp only [Act.put, List.setIfInBounds_toArray, List.set_cons_zero, List.set_cons_succ]
  refine wpT_take (i := 6) (v := ?va6) rfl (by kernel_rfl) (fun _ _ _ h => h) rfl ?ya6 ?ra6
  case ya6 => ((intro wz; go_simp); try with_reducible rfl)
  try simp only [Act.put, List.setIfInBounds_toArray, List.set_cons_zero, List.set_cons_succ]
  refine wpT_load (i := 7) (v := ?va7) rfl (by kernel_rfl) (fun _ _ _ h => h) rfl ?ya7 HS ?ra7
  case ya7 => ((intro wz hSw; (try dsimp only at hSw); go_split_ands; go_simp); try with_reducible rfl)
  try simp only [Act.put, List.setIfInBounds_toArray, List.set_cons_zero, List.set_cons_succ]
  refine wpT_take (i := 8) (v := ?va8) rfl (by kernel_rfl) (fun _ _ _ h => h) rfl ?ya8 ?ra8
  case ya8 => ((intro wz; go_simp); try with_reducible rfl)
  try simp only [Act.put, List.setIfInBounds_toArray, List.set_cons_zero, List.set_cons_succ]
  refine wpT_take (i := 9) (v := ?va9) rfl (by kernel_rfl) (fun _ _ _ h => h) rfl ?ya9 ?ra9
  case ya9 => ((intro wz; go_simp); try with_reducible rfl)
  try simp only [Act.put, List.setIfInBounds_toArray, List.set_cons_zero, List.set_cons_succ]
  refine wpT_run (i := 10) (by kernel_rfl) rfl rfl ?_
  go_simp
  refine ⟨trivial, wpT_done (by kernel_rfl) ?_ _⟩
  go_wp2
  refine bodyPost_ret (v := An.agg' ⟨-1, LL, Vl.zero⟩) ?_ rfl ⟨rfl, ?_⟩
  · simp [results, Try.results54, go_sem, An.agg', Vl.zero]
    rfl
  · exact SP.of_below H.out (below2 _ _ _).drew

set_option maxHeartbeats 1000000 in
theorem lk_18 {w : World} {B g : Nat} {F : Nat → Prop} {m : Md} (h : ST w B g F m) (hw : WF m) {i : Nat} (hi : i < m.len) (hlen : m.len ≤ 4611686018427387904) (hcnt : m.cnt ≤ 500) (hsz : ∀ l, (m.seq l).length ≤ 500) {list other mark : Int} {v : Vl} {n e : Nat} (hn : n < m.len) (hr : m.ret n = some e) :
    Calls Try.prog 54 #[.pointer (some ⟨g, 0, none⟩), .int .i64 i, Cl.agg' ⟨18, list, other, n, mark, v⟩] w fun r w' => r = .returned (m.look i ⟨18, list, other, n, mark, v⟩).2.agg' ∧ SP w w' B g F (m.look i ⟨18, list, other, n, mark, v⟩).1 := by
  have F0 := FrA.start h ⟨18, list, other, n, mark, v⟩
  have FA := Lib.hid F0; have HW := Lib.hid hw
  have he := (hw.rlt n e hr).2
  have hsz2 : ∀ l, (m.seq l).length ≤ 4611686018427387904 := fun l => by have := hsz l; omega
  obtain ⟨v0, v1, v2, v3, ls, hs⟩ := F0.sp.sr
  have BS := Lib.hid (beside_next hs.drew hw he hlen hsz2)
  have c2 := hs.c2
  obtain ⟨b2, cap2, rfl, g2, _⟩ := hs.at2 hn
  rw [hr, optI_some] at g2
  have y1 := F0.toFr.cell (j := 3) rfl
  have e9 : m.look i ⟨18, list, other, n, mark, v⟩ = m.answer i (m.next e) := by
    show (match m.ret (((n : Nat) : Int)).toNat with | none => (m, An.no) | some e => _) = _
    rw [Int.toNat_natCast, hr]; rfl
  rw [e9]
  unfold Cl.agg'
  simp only [Cl.arr, sAnsBlock] at c2 g2 y1 BS
  cases hx : m.next e with
  | none =>
    rw [hx, optI_none] at BS
    clear h hw hs e9 hx hr hsz2
    go_enter Try.func54, Try.ntmps54
    go_wp2_with fail
    refine wp_region_T (fun w' => w'.cell? ⟨g, 2, none⟩ = some (.slice (some ⟨b2, 0, none⟩) m.len cap2) ∧ w'.cell? ⟨b2, n, none⟩ = some (.int .i64 (e : Nat)) ∧ w'.cell? ⟨w.heap.size, 3, none⟩ = some (.int .i64 (n : Nat))) [11] [12, 13] run_mixed ?_
    simp only [List.size_toArray, List.length_cons, List.length_nil]
    have HS : ((w.alloc (.cells #[.int .i64 18, .int .i64 list, .int .i64 other, .int .i64 ((n : Nat)), .int .i64 mark, .int .i64 v.kind, .int .i64 v.n, .string v.s] 79)).alloc (.cells #[.int .i64 0, .int .i64 0, .int .i64 0, .int .i64 0, .string ⟨#[]⟩] 84)).drew.cell? ⟨g, 2, none⟩ = some (.slice (some ⟨b2, 0, none⟩) m.len cap2) ∧ ((w.alloc (.cells #[.int .i64 18, .int .i64 list, .int .i64 other, .int .i64 ((n : Nat)), .int .i64 mark, .int .i64 v.kind, .int .i64 v.n, .string v.s] 79)).alloc (.cells #[.int .i64 0, .int .i64 0, .int .i64 0, .int .i64 0, .string ⟨#[]⟩] 84)).drew.cell? ⟨b2, n, none⟩ = some (.int .i64 (e : Nat)) ∧ ((w.alloc (.cells #[.int .i64 18, .int .i64 list, .int .i64 other, .int .i64 ((n : Nat)), .int .i64 mark, .int .i64 v.kind, .int .i64 v.n, .string v.s] 79)).alloc (.cells #[.int .i64 0, .int .i64 0, .int .i64 0, .int .i64 0, .string ⟨#[]⟩] 84)).drew.cell? ⟨w.heap.size, 3, none⟩ = some (.int .i64 (n : Nat)) := ⟨c2, g2, y1⟩
    refine wpT_take (i := 0) (v := ?va0) rfl (by kernel_rfl) (fun _ _ _ h => h) rfl ?ya0 ?ra0
    case ya0 => ((intro wz; go_simp); try with_reducible rfl)
    try simp only [Act.put, List.setIfInBounds_toArray, List.set_cons_zero, List.set_cons_succ]
    refine wpT_take (i := 1) (v := ?va1) rfl (by kernel_rfl) (fun _ _ _ h => h) rfl ?ya1 ?ra1
    case ya1 => ((intro wz; go_simp); try with_reducible rfl)
    try simp only [Act.put, List.setIfInBounds_toArray, List.set_cons_zero, List.set_cons_succ]
    refine wpT_take (i := 2) (v := ?va2) rfl (by kernel_rfl) (fun _ _ _ h => h) rfl ?ya2 ?ra2
    case ya2 => ((intro wz; go_simp); try with_reducible rfl)
    try simp only [Act.put, List.setIfInBounds_toArray, List.set_cons_zero, List.set_cons_succ]
    refine wpT_take (i := 3) (v := ?va3) rfl (by kernel_rfl) (fun _ _ _ h => h) rfl ?ya3 ?ra3
    case ya3 => ((intro wz; go_simp); try with_reducible rfl)
    try simp only [Act.put, List.setIfInBounds_toArray, List.set_cons_zero, List.set_cons_succ]
    refine wpT_take (i := 4) (v := ?va4) rfl (by kernel_rfl) (fun _ _ _ h => h) rfl ?ya4 ?ra4
    case ya4 => ((intro wz; go_simp); try with_reducible rfl)
    try simp only [Act.put, List.setIfInBounds_toArray, List.set_cons_zero, List.set_cons_succ]
    refine wpT_take (i := 5) (v := ?va5) rfl (by kernel_rfl) (fun _ _ _ h => h) rfl ?ya5 ?ra5
    case ya5 => ((intro wz; go_simp); try with_reducible rfl)
    try simp only [Act.put, List.setIfInBounds_toArray, List.set_cons_zero, List.set_cons_succ]
    refine wpT_load (i := 6) (v := ?va6) rfl (by kernel_rfl) (fun _ _ _ h => h) rfl ?ya6 HS ?ra6
    case ya6 => ((intro wz hSw; (try dsimp only at hSw); go_split_ands; go_simp); try with_reducible rfl)
    try simp only [Act.put, List.setIfInBounds_toArray, List.set_cons_zero, List.set_cons_succ]
    refine wpT_take (i := 7) (v := ?va7) rfl (by kernel_rfl) (fun _ _ _ h => h) rfl ?ya7 ?ra7
    case ya7 => ((intro wz; go_simp); try with_reducible rfl)
    try simp only [Act.put, List.setIfInBounds_toArray, List.set_cons_zero, List.set_cons_succ]
    refine wpT_load (i := 8) (v := ?va8) rfl (by kernel_rfl) (fun _ _ _ h => h) rfl ?ya8 HS ?ra8
    case ya8 => ((intro wz hSw; (try dsimp only at hSw); go_split_ands; go_simp); try with_reducible rfl)
    try simp only [Act.put, List.setIfInBounds_toArray, List.set_cons_zero, List.set_cons_succ]
    refine wpT_take (i := 9) (v := ?va9) rfl (by kernel_rfl) (fun _ _ _ h => h) rfl ?ya9 ?ra9
    case ya9 => ((intro wz; go_simp); try with_reducible rfl)
    try simp only [Act.put, List.setIfInBounds_toArray, List.set_cons_zero, List.set_cons_succ]
    refine wpT_load (i := 10) (v := ?va10) rfl (by kernel_rfl) (fun _ _ _ h => h) rfl ?ya10 HS ?ra10
    case ya10 => ((intro wz hSw; (try dsimp only at hSw); go_split_ands; go_simp); try with_reducible rfl)
    try simp only [Act.put, List.setIfInBounds_toArray, List.set_cons_zero, List.set_cons_succ]
    refine wpT_run (i := 11) (by kernel_rfl) rfl rfl ?_
    go_simp
    refine BS.out.mono ?_
    rintro r w2 ⟨rfl, rfl⟩
    refine ⟨cond_R (by decide) (by decide) HS, ?_⟩
    refine wpT_run (i := 12) (by kernel_rfl) rfl rfl ?_
    go_simp
    refine (answer_none i).mono ?_
    rintro r w3 ⟨rfl, hb3⟩
    have F3 := Lib.hid (F0.drew.next (SP.of_below F0.drew.sp.st hb3))
    obtain ⟨f5, d0, d1, d2, d3, d4⟩ := F3.out.acells
    clear hb3
    unfold An.agg'
    refine ⟨trivial, ?_⟩
    refine wpT_run (i := 13) (by kernel_rfl) rfl rfl ?_
    go_simp
    refine ⟨trivial, wpT_done (by kernel_rfl) ?_ _⟩
    go_wp2
    refine bodyPost_ret (v := An.agg' An.no) ?_ rfl ⟨rfl, F3.out.fin An.no⟩
    simp [results, Try.results54, go_sem, An.agg', An.no, Vl.zero, f5, d0, d1, d2, d3, d4]
  | some x =>
    rw [hx, optI_some] at BS
    have hxc := next_lt hw hx
    clear h hw hs e9 hx hr hsz2
    go_enter Try.func54, Try.ntmps54
    go_wp2_with fail
    refine wp_region_T (fun w' => w'.cell? ⟨g, 2, none⟩ = some (.slice (some ⟨b2, 0, none⟩) m.len cap2) ∧ w'.cell? ⟨b2, n, none⟩ = some (.int .i64 (e : Nat)) ∧ w'.cell? ⟨w.heap.size, 3, none⟩ = some (.int .i64 (n : Nat))) [11] [12, 13] run_mixed ?_
    simp only [List.size_toArray, List.length_cons, List.length_nil]
    have HS : ((w.alloc (.cells #[.int .i64 18, .int .i64 list, .int .i64 other, .int .i64 ((n : Nat)), .int .i64 mark, .int .i64 v.kind, .int .i64 v.n, .string v.s] 79)).alloc (.cells #[.int .i64 0, .int .i64 0, .int .i64 0, .int .i64 0, .string ⟨#[]⟩] 84)).drew.cell? ⟨g, 2, none⟩ = some (.slice (some ⟨b2, 0, none⟩) m.len cap2) ∧ ((w.alloc (.cells #[.int .i64 18, .int .i64 list, .int .i64 other, .int .i64 ((n : Nat)), .int .i64 mark, .int .i64 v.kind, .int .i64 v.n, .string v.s] 79)).alloc (.cells #[.int .i64 0, .int .i64 0, .int .i64 0, .int .i64 0, .string ⟨#[]⟩] 84)).drew.cell? ⟨b2, n, none⟩ = some (.int .i64 (e : Nat)) ∧ ((w.alloc (.cells #[.int .i64 18, .int .i64 list, .int .i64 other, .int .i64 ((n : Nat)), .int .i64 mark, .int .i64 v.kind, .int .i64 v.n, .string v.s] 79)).alloc (.cells #[.int .i64 0, .int .i64 0, .int .i64 0, .int .i64 0, .string ⟨#[]⟩] 84)).drew.cell? ⟨w.heap.size, 3, none⟩ = some (.int .i64 (n : Nat)) := ⟨c2, g2, y1⟩
    refine wpT_take (i := 0) (v := ?vb0) rfl (by kernel_rfl) (fun _ _ _ h => h) rfl ?yb0 ?rb0
    case yb0 => ((intro wz; go_simp); try with_reducible rfl)
    try simp only [Act.put, List.setIfInBounds_toArray, List.set_cons_zero, List.set_cons_succ]
    refine wpT_take (i := 1) (v := ?vb1) rfl (by kernel_rfl) (fun _ _ _ h => h) rfl ?yb1 ?rb1
    case yb1 => ((intro wz; go_simp); try with_reducible rfl)
    try simp only [Act.put, List.setIfInBounds_toArray, List.set_cons_zero, List.set_cons_succ]
    refine wpT_take (i := 2) (v := ?vb2) rfl (by kernel_rfl) (fun _ _ _ h => h) rfl ?yb2 ?rb2
    case yb2 => ((intro wz; go_simp); try with_reducible rfl)
    try simp only [Act.put, List.setIfInBounds_toArray, List.set_cons_zero, List.set_cons_succ]
    refine wpT_take (i := 3) (v := ?vb3) rfl (by kernel_rfl) (fun _ _ _ h => h) rfl ?yb3 ?rb3
    case yb3 => ((intro wz; go_simp); try with_reducible rfl)
    try simp only [Act.put, List.setIfInBounds_toArray, List.set_cons_zero, List.set_cons_succ]
    refine wpT_take (i := 4) (v := ?vb4) rfl (by kernel_rfl) (fun _ _ _ h => h) rfl ?yb4 ?rb4
    case yb4 => ((intro wz; go_simp); try with_reducible rfl)
    try simp only [Act.put, List.setIfInBounds_toArray, List.set_cons_zero, List.set_cons_succ]
    refine wpT_take (i := 5) (v := ?vb5) rfl (by kernel_rfl) (fun _ _ _ h => h) rfl ?yb5 ?rb5
    case yb5 => ((intro wz; go_simp); try with_reducible rfl)
    try simp only [Act.put, List.setIfInBounds_toArray, List.set_cons_zero, List.set_cons_succ]
    refine wpT_load (i := 6) (v := ?vb6) rfl (by kernel_rfl) (fun _ _ _ h => h) rfl ?yb6 HS ?rb6
    case yb6 => ((intro wz hSw; (try dsimp only at hSw); go_split_ands; go_simp); try with_reducible rfl)
    try simp only [Act.put, List.setIfInBounds_toArray, List.set_cons_zero, List.set_cons_succ]
    refine wpT_take (i := 7) (v := ?vb7) rfl (by kernel_rfl) (fun _ _ _ h => h) rfl ?yb7 ?rb7
    case yb7 => ((intro wz; go_simp); try with_reducible rfl)
    try simp only [Act.put, List.setIfInBounds_toArray, List.set_cons_zero, List.set_cons_succ]
    refine wpT_load (i := 8) (v := ?vb8) rfl (by kernel_rfl) (fun _ _ _ h => h) rfl ?yb8 HS ?rb8
    case yb8 => ((intro wz hSw; (try dsimp only at hSw); go_split_ands; go_simp); try with_reducible rfl)
    try simp only [Act.put, List.setIfInBounds_toArray, List.set_cons_zero, List.set_cons_succ]
    refine wpT_take (i := 9) (v := ?vb9) rfl (by kernel_rfl) (fun _ _ _ h => h) rfl ?yb9 ?rb9
    case yb9 => ((intro wz; go_simp); try with_reducible rfl)
    try simp only [Act.put, List.setIfInBounds_toArray, List.set_cons_zero, List.set_cons_succ]
    refine wpT_load (i := 10) (v := ?vb10) rfl (by kernel_rfl) (fun _ _ _ h => h) rfl ?yb10 HS ?rb10
    case yb10 => ((intro wz hSw; (try dsimp only at hSw); go_split_ands; go_simp); try with_reducible rfl)
    try simp only [Act.put, List.setIfInBounds_toArray, List.set_cons_zero, List.set_cons_succ]
    refine wpT_run (i := 11) (by kernel_rfl) rfl rfl ?_
    go_simp
    refine BS.out.mono ?_
    rintro r w2 ⟨rfl, rfl⟩
    refine ⟨cond_R (by decide) (by decide) HS, ?_⟩
    refine wpT_run (i := 12) (by kernel_rfl) rfl rfl ?_
    go_simp
    refine (answer_some (i := i) (e := x) F0.drew.sp.st hi hxc hlen (by omega)).mono ?_
    rintro r w3 ⟨rfl, S3⟩
    have F3 := Lib.hid (F0.drew.next S3)
    obtain ⟨f5, d0, d1, d2, d3, d4⟩ := F3.out.acells
    clear S3
    generalize hq : Md.num _ _ _ = q
    have HQ := Lib.hid hq
    clear hq
    unfold An.agg'
    refine ⟨trivial, ?_⟩
    refine wpT_run (i := 13) (by kernel_rfl) rfl rfl ?_
    go_simp
    refine ⟨trivial, wpT_done (by kernel_rfl) ?_ _⟩
    go_wp2
    refine bodyPost_ret (v := q.agg') ?_ rfl ⟨?_, F3.out.fin q⟩
    · simp [results, Try.results54, go_sem, An.agg', f5, d0, d1, d2, d3, d4]
    · rw [← HQ.out]; try rfl

set_option maxHeartbeats 1000000 in
theorem lk_19 {w : World} {B g : Nat} {F : Nat → Prop} {m : Md} (h : ST w B g F m) (hw : WF m) {i : Nat} (hi : i < m.len) (hlen : m.len ≤ 4611686018427387904) (hcnt : m.cnt ≤ 500) (hsz : ∀ l, (m.seq l).length ≤ 500) {list other mark : Int} {v : Vl} {n e : Nat} (hn : n < m.len) (hr : m.ret n = some e) :
    Calls Try.prog 54 #[.pointer (some ⟨g, 0, none⟩), .int .i64 i, Cl.agg' ⟨19, list, other, n, mark, v⟩] w fun r w' => r = .returned (m.look i ⟨19, list, other, n, mark, v⟩).2.agg' ∧ SP w w' B g F (m.look i ⟨19, list, other, n, mark, v⟩).1 := by
  have F0 := FrA.start h ⟨19, list, other, n, mark, v⟩
  have FA := Lib.hid F0; have HW := Lib.hid hw
  have he := (hw.rlt n e hr).2
  have hsz2 : ∀ l, (m.seq l).length ≤ 4611686018427387904 := fun l => by have := hsz l; omega
  obtain ⟨v0, v1, v2, v3, ls, hs⟩ := F0.sp.sr
  have BS := Lib.hid (beside_prev hs.drew hw he hlen hsz2)
  have c2 := hs.c2
  obtain ⟨b2, cap2, rfl, g2, _⟩ := hs.at2 hn
  rw [hr, optI_some] at g2
  have y1 := F0.toFr.cell (j := 3) rfl
  have e9 : m.look i ⟨19, list, other, n, mark, v⟩ = m.answer i (m.prev e) := by
    show (match m.ret (((n : Nat) : Int)).toNat with | none => (m, An.no) | some e => _) = _
    rw [Int.toNat_natCast, hr]; rfl
  rw [e9]
  unfold Cl.agg'
  simp only [Cl.arr, sAnsBlock] at c2 g2 y1 BS
  cases hx : m.prev e with
  | none =>
    rw [hx, optI_none] at BS
    clear h hw hs e9 hx hr hsz2
    go_enter Try.func54, Try.ntmps54
    go_wp2_with fail
    refine wp_region_T (fun w' => w'.cell? ⟨g, 2, none⟩ = some (.slice (some ⟨b2, 0, none⟩) m.len cap2) ∧ w'.cell? ⟨b2, n, none⟩ = some (.int .i64 (e : Nat)) ∧ w'.cell? ⟨w.heap.size, 3, none⟩ = some (.int .i64 (n : Nat))) [11] [12, 13] run_mixed ?_
    simp only [List.size_toArray, List.length_cons, List.length_nil]
    have HS : ((w.alloc (.cells #[.int .i64 19, .int .i64 list, .int .i64 other, .int .i64 ((n : Nat)), .int .i64 mark, .int .i64 v.kind, .int .i64 v.n, .string v.s] 79)).alloc (.cells #[.int .i64 0, .int .i64 0, .int .i64 0, .int .i64 0, .string ⟨#[]⟩] 84)).drew.cell? ⟨g, 2, none⟩ = some (.slice (some ⟨b2, 0, none⟩) m.len cap2) ∧ ((w.alloc (.cells #[.int .i64 19, .int .i64 list, .int .i64 other, .int .i64 ((n : Nat)), .int .i64 mark, .int .i64 v.kind, .int .i64 v.n, .string v.s] 79)).alloc (.cells #[.int .i64 0, .int .i64 0, .int .i64 0, .int .i64 0, .string ⟨#[]⟩] 84)).drew.cell? ⟨b2, n, none⟩ = some (.int .i64 (e : Nat)) ∧ ((w.alloc (.cells #[.int .i64 19, .int .i64 list, .int .i64 other, .int .i64 ((n : Nat)), .int .i64 mark, .int .i64 v.kind, .int .i64 v.n, .string v.s] 79)).alloc (.cells #[.int .i64 0, .int .i64 0, .int .i64 0, .int .i64 0, .string ⟨#[]⟩] 84)).drew.cell? ⟨w.heap.size, 3, none⟩ = some (.int .i64 (n : Nat)) := ⟨c2, g2, y1⟩
    refine wpT_take (i := 0) (v := ?va0) rfl (by kernel_rfl) (fun _ _ _ h => h) rfl ?ya0 ?ra0
    case ya0 => ((intro wz; go_simp); try with_reducible rfl)
    try simp only [Act.put, List.setIfInBounds_toArray, List.set_cons_zero, List.set_cons_succ]
    refine wpT_take (i := 1) (v := ?va1) rfl (by kernel_rfl) (fun _ _ _ h => h) rfl ?ya1 ?ra1
    case ya1 => ((intro wz; go_simp); try with_reducible rfl)
    try simp only [Act.put, List.setIfInBounds_toArray, List.set_cons_zero, List.set_cons_succ]
    refine wpT_take (i := 2) (v := ?va2) rfl (by kernel_rfl) (fun _ _ _ h => h) rfl ?ya2 ?ra2
    case ya2 => ((intro wz; go_simp); try with_reducible rfl)
    try simp only [Act.put, List.setIfInBounds_toArray, List.set_cons_zero, List.set_cons_succ]
    refine wpT_take (i := 3) (v := ?va3) rfl (by kernel_rfl) (fun _ _ _ h => h) rfl ?ya3 ?ra3
    case ya3 => ((intro wz; go_simp); try with_reducible rfl)
    try simp only [Act.put, List.setIfInBounds_toArray, List.set_cons_zero, List.set_cons_succ]
    refine wpT_take (i := 4) (v := ?va4) rfl (by kernel_rfl) (fun _ _ _ h => h) rfl ?ya4 ?ra4
    case ya4 => ((intro wz; go_simp); try with_reducible rfl)
    try simp only [Act.put, List.setIfInBounds_toArray, List.set_cons_zero, List.set_cons_succ]
    refine wpT_take (i := 5) (v := ?va5) rfl (by kernel_rfl) (fun _ _ _ h => h) rfl ?ya5 ?ra5
    case ya5 => ((intro wz; go_simp); try with_reducible rfl)
    try simp only [Act.put, List.setIfInBounds_toArray, List.set_cons_zero, List.set_cons_succ]
    refine wpT_load (i := 6) (v := ?va6) rfl (by kernel_rfl) (fun _ _ _ h => h) rfl ?ya6 HS ?ra6
    case ya6 => ((intro wz hSw; (try dsimp only at hSw); go_split_ands; go_simp); try with_reducible rfl)
    try simp only [Act.put, List.setIfInBounds_toArray, List.set_cons_zero, List.set_cons_succ]
    refine wpT_take (i := 7) (v := ?va7) rfl (by kernel_rfl) (fun _ _ _ h => h) rfl ?ya7 ?ra7
    case ya7 => ((intro wz; go_simp); try with_reducible rfl)
    try simp only [Act.put, List.setIfInBounds_toArray, List.set_cons_zero, List.set_cons_succ]
    refine wpT_load (i := 8) (v := ?va8) rfl (by kernel_rfl) (fun _ _ _ h => h) rfl ?ya8 HS ?ra8
    case ya8 => ((intro wz hSw; (try dsimp only at hSw); go_split_ands; go_simp); try with_reducible rfl)
    try simp only [Act.put, List.setIfInBounds_toArray, List.set_cons_zero, List.set_cons_succ]
    refine wpT_take (i := 9) (v := ?va9) rfl (by kernel_rfl) (fun _ _ _ h => h) rfl ?ya9 ?ra9
    case ya9 => ((intro wz; go_simp); try with_reducible rfl)
    try simp only [Act.put, List.setIfInBounds_toArray, List.set_cons_zero, List.set_cons_succ]
    refine wpT_load (i := 10) (v := ?va10) rfl (by kernel_rfl) (fun _ _ _ h => h) rfl ?ya10 HS ?ra10
    case ya10 => ((intro wz hSw; (try dsimp only at hSw); go_split_ands; go_simp); try with_reducible rfl)
    try simp only [Act.put, List.setIfInBounds_toArray, List.set_cons_zero, List.set_cons_succ]
    refine wpT_run (i := 11) (by kernel_rfl) rfl rfl ?_
    go_simp
    refine BS.out.mono ?_
    rintro r w2 ⟨rfl, rfl⟩
    refine ⟨cond_R (by decide) (by decide) HS, ?_⟩
    refine wpT_run (i := 12) (by kernel_rfl) rfl rfl ?_
    go_simp
    refine (answer_none i).mono ?_
    rintro r w3 ⟨rfl, hb3⟩
    have F3 := Lib.hid (F0.drew.next (SP.of_below F0.drew.sp.st hb3))
    obtain ⟨f5, d0, d1, d2, d3, d4⟩ := F3.out.acells
    clear hb3
    unfold An.agg'
    refine ⟨trivial, ?_⟩
    refine wpT_run (i := 13) (by kernel_rfl) rfl rfl ?_
    go_simp
    refine ⟨trivial, wpT_done (by kernel_rfl) ?_ _⟩
    go_wp2
    refine bodyPost_ret (v := An.agg' An.no) ?_ rfl ⟨rfl, F3.out.fin An.no⟩
    simp [results, Try.results54, go_sem, An.agg', An.no, Vl.zero, f5, d0, d1, d2, d3, d4]
  | some x =>
    rw [hx, optI_some] at BS
    have hxc := prev_lt hw hx
    clear h hw hs e9 hx hr hsz2
    go_enter Try.func54, Try.ntmps54
    go_wp2_with fail
    refine wp_region_T (fun w' => w'.cell? ⟨g, 2, none⟩ = some (.slice (some ⟨b2, 0, none⟩) m.len cap2) ∧ w'.cell? ⟨b2, n, none⟩ = some (.int .i64 (e : Nat)) ∧ w'.cell? ⟨w.heap.size, 3, none⟩ = some (.int .i64 (n : Nat))) [11] [12, 13] run_mixed ?_
    simp only [List.size_toArray, List.length_cons, List.length_nil]
    have HS : ((w.alloc (.cells #[.int .i64 19, .int .i64 list, .int .i64 other, .int .i64 ((n : Nat)), .int .i64 mark, .int .i64 v.kind, .int .i64 v.n, .string v.s] 79)).alloc (.cells #[.int .i64 0, .int .i64 0, .int .i64 0, .int .i64 0, .string ⟨#[]⟩] 84)).drew.cell? ⟨g, 2, none⟩ = some (.slice (some ⟨b2, 0, none⟩) m.len cap2) ∧ ((w.alloc (.cells #[.int .i64 19, .int .i64 list, .int .i64 other, .int .i64 ((n : Nat)), .int .i64 mark, .int .i64 v.kind, .int .i64 v.n, .string v.s] 79)).alloc (.cells #[.int .i64 0, .int .i64 0, .int .i64 0, .int .i64 0, .string ⟨#[]⟩] 84)).drew.cell? ⟨b2, n, none⟩ = some (.int .i64 (e : Nat)) ∧ ((w.alloc (.cells #[.int .i64 19, .int .i64 list, .int .i64 other, .int .i64 ((n : Nat)), .int .i64 mark, .int .i64 v.kind, .int .i64 v.n, .string v.s] 79)).alloc (.cells #[.int .i64 0, .int .i64 0, .int .i64 0, .int .i64 0, .string ⟨#[]⟩] 84)).drew.cell? ⟨w.heap.size, 3, none⟩ = some (.int .i64 (n : Nat)) := ⟨c2, g2, y1⟩
    refine wpT_take (i := 0) (v := ?vb0) rfl (by kernel_rfl) (fun _ _ _ h => h) rfl ?yb0 ?rb0
    case yb0 => ((intro wz; go_simp); try with_reducible rfl)
    try simp only [Act.put, List.setIfInBounds_toArray, List.set_cons_zero, List.set_cons_succ]
    refine wpT_take (i := 1) (v := ?vb1) rfl (by kernel_rfl) (fun _ _ _ h => h) rfl ?yb1 ?rb1
    case yb1 => ((intro wz; go_simp); try with_reducible rfl)
    try simp only [Act.put, List.setIfInBounds_toArray, List.set_cons_zero, List.set_cons_succ]
    refine wpT_take (i := 2) (v := ?vb2) rfl (by kernel_rfl) (fun _ _ _ h => h) rfl ?yb2 ?rb2
    case yb2 => ((intro wz; go_simp); try with_reducible rfl)
    try simp only [Act.put, List.setIfInBounds_toArray, List.set_cons_zero, List.set_cons_succ]
    refine wpT_take (i := 3) (v := ?vb3) rfl (by kernel_rfl) (fun _ _ _ h => h) rfl ?yb3 ?rb3
    case yb3 => ((intro wz; go_simp); try with_reducible rfl)
    try simp only [Act.put, List.setIfInBounds_toArray, List.set_cons_zero, List.set_cons_succ]
    refine wpT_take (i := 4) (v := ?vb4) rfl (by kernel_rfl) (fun _ _ _ h => h) rfl ?yb4 ?rb4
    case yb4 => ((intro wz; go_simp); try with_reducible rfl)
    try simp only [Act.put, List.setIfInBounds_toArray, List.set_cons_zero, List.set_cons_succ]
    refine wpT_take (i := 5) (v := ?vb5) rfl (by kernel_rfl) (fun _ _ _ h => h) rfl ?yb5 ?rb5
    case yb5 => ((intro wz; go_simp); try with_reducible rfl)
    try simp only [Act.put, List.setIfInBounds_toArray, List.set_cons_zero, List.set_cons_succ]
    refine wpT_load (i := 6) (v := ?vb6) rfl (by kernel_rfl) (fun _ _ _ h => h) rfl ?yb6 HS ?rb6
    case yb6 => ((intro wz hSw; (try dsimp only at hSw); go_split_ands; go_simp); try with_reducible rfl)
    try simp only [Act.put, List.setIfInBounds_toArray, List.set_cons_zero, List.set_cons_succ]
    refine wpT_take (i := 7) (v := ?vb7) rfl (by kernel_rfl) (fun _ _ _ h => h) rfl ?yb7 ?rb7
    case yb7 => ((intro wz; go_simp); try with_reducible rfl)
    try simp only [Act.put, List.setIfInBounds_toArray, List.set_cons_zero, List.set_cons_succ]
    refine wpT_load (i := 8) (v := ?vb8) rfl (by kernel_rfl) (fun _ _ _ h => h) rfl ?yb8 HS ?rb8
    case yb8 => ((intro wz hSw; (try dsimp only at hSw); go_split_ands; go_simp); try with_reducible rfl)
    try simp only [Act.put, List.setIfInBounds_toArray, List.set_cons_zero, List.set_cons_succ]
    refine wpT_take (i := 9) (v := ?vb9) rfl (by kernel_rfl) (fun _ _ _ h => h) rfl ?yb9 ?rb9
    case yb9 => ((intro wz; go_simp); try with_reducible rfl)
    try simp only [Act.put, List.setIfInBounds_toArray, List.set_cons_zero, List.set_cons_succ]
    refine wpT_load (i := 10) (v := ?vb10) rfl (by kernel_rfl) (fun _ _ _ h => h) rfl ?yb10 HS ?rb10
    case yb10 => ((intro wz hSw; (try dsimp only at hSw); go_split_ands; go_simp); try with_reducible rfl)
    try simp only [Act.put, List.setIfInBounds_toArray, List.set_cons_zero, List.set_cons_succ]
    refine wpT_run (i := 11) (by kernel_rfl) rfl rfl ?_
    go_simp
    refine BS.out.mono ?_
    rintro r w2 ⟨rfl, rfl⟩
    refine ⟨cond_R (by decide) (by decide) HS, ?_⟩
    refine wpT_run (i := 12) (by kernel_rfl) rfl rfl ?_
    go_simp
    refine (answer_some (i := i) (e := x) F0.drew.sp.st hi hxc hlen (by omega)).mono ?_
    rintro r w3 ⟨rfl, S3⟩
    have F3 := Lib.hid (F0.drew.next S3)
    obtain ⟨f5, d0, d1, d2, d3, d4⟩ := F3.out.acells
    clear S3
    generalize hq : Md.num _ _ _ = q
    have HQ := Lib.hid hq
    clear hq
    unfold An.agg'
    refine ⟨trivial, ?_⟩
    refine wpT_run (i := 13) (by kernel_rfl) rfl rfl ?_
    go_simp
    refine ⟨trivial, wpT_done (by kernel_rfl) ?_ _⟩
    go_wp2
    refine bodyPost_ret (v := q.agg') ?_ rfl ⟨?_, F3.out.fin q⟩
    · simp [results, Try.results54, go_sem, An.agg', f5, d0, d1, d2, d3, d4]
    · rw [← HQ.out]; try rfl

set_option maxHeartbeats 1000000 in
theorem lk_20 {w : World} {B g : Nat} {F : Nat → Prop} {m : Md} (h : ST w B g F m) (hw : WF m) {i : Nat} (hi : i < m.len) (hlen : m.len ≤ 4611686018427387904) (hcnt : m.cnt ≤ 500) (hsz : ∀ l, (m.seq l).length ≤ 500) {list other mark : Int} {v : Vl} {n e : Nat} (hn : n < m.len) (hr : m.ret n = some e) :
    Calls Try.prog 54 #[.pointer (some ⟨g, 0, none⟩), .int .i64 i, Cl.agg' ⟨20, list, other, n, mark, v⟩] w fun r w' => r = .returned (m.look i ⟨20, list, other, n, mark, v⟩).2.agg' ∧ SP w w' B g F (m.look i ⟨20, list, other, n, mark, v⟩).1 := by
  have F0 := FrA.start h ⟨20, list, other, n, mark, v⟩
  have FA := Lib.hid F0; have HW := Lib.hid hw
  have he := (hw.rlt n e hr).2
  obtain ⟨v0, v1, v2, v3, ls, hs, hf, hF⟩ := F0.sp.st
  have c2 := hs.c2
  have c3 := hs.c3
  obtain ⟨b2, cap2, rfl, g2, _⟩ := hs.at2 hn
  obtain ⟨b3, cap3, rfl, _, _⟩ := hs.at3 he
  rw [hr, optI_some] at g2
  have e0 := hs.el (j := 0) he rfl; have e1 := hs.el (j := 1) he rfl; have e2 := hs.el (j := 2) he rfl
  have y3 := F0.toFr.cell (j := 3) rfl
  have heI : ((e : Nat) : Int) < (m.cnt : Nat) := by omega
  have e9 : m.look i ⟨20, list, other, n, mark, v⟩ = (m, ⟨-1, 0, m.val e⟩) := by
    show (match m.ret (((n : Nat) : Int)).toNat with | none => (m, An.no) | some e => _) = _
    rw [Int.toNat_natCast, hr]; rfl
  rw [e9]
  have H := Lib.hid h
  unfold Cl.agg'
  simp only [Cl.arr, sAnsBlock, Nat.add_zero] at c2 c3 g2 y3 e0 e1 e2
  generalize m.val e = x at *
  clear h hw hs hf hF F0 e9 hr
  go_enter Try.func54, Try.ntmps54
  go_wp2_with fail
  refine wp_region_T (fun w' => w'.cell? ⟨g, 2, none⟩ = some (.slice (some ⟨b2, 0, none⟩) m.len cap2) ∧ w'.cell? ⟨b2, n, none⟩ = some (.int .i64 (e : Nat)) ∧ w'.cell? ⟨w.heap.size, 3, none⟩ = some (.int .i64 (n : Nat)) ∧ w'.cell? ⟨g, 3, none⟩ = some (.slice (some ⟨b3, 0, none⟩) m.cnt cap3) ∧ w'.cell? ⟨b3, e * 6, none⟩ = some (.int .i64 x.kind) ∧ w'.cell? ⟨b3, e * 6 + 1, none⟩ = some (.int .i64 x.n) ∧ w'.cell? ⟨b3, e * 6 + 2, none⟩ = some (.string x.s)) [] [16] run_mixed ?_
  simp only [List.size_toArray, List.length_cons, List.length_nil]
  have HS : ((w.alloc (.cells #[.int .i64 20, .int .i64 list, .int .i64 other, .int .i64 ((n : Nat)), .int .i64 mark, .int .i64 v.kind, .int .i64 v.n, .string v.s] 79)).alloc (.cells #[.int .i64 0, .int .i64 0, .int .i64 0, .int .i64 0, .string ⟨#[]⟩] 84)).drew.cell? ⟨g, 2, none⟩ = some (.slice (some ⟨b2, 0, none⟩) m.len cap2) ∧ ((w.alloc (.cells #[.int .i64 20, .int .i64 list, .int .i64 other, .int .i64 ((n : Nat)), .int .i64 mark, .int .i64 v.kind, .int .i64 v.n, .string v.s] 79)).alloc (.cells #[.int .i64 0, .int .i64 0, .int .i64 0, .int .i64 0, .string ⟨#[]⟩] 84)).drew.cell? ⟨b2, n, none⟩ = some (.int .i64 (e : Nat)) ∧ ((w.alloc (.cells #[.int .i64 20, .int .i64 list, .int .i64 other, .int .i64 ((n : Nat)), .int .i64 mark, .int .i64 v.kind, .int .i64 v.n, .string v.s] 79)).alloc (.cells #[.int .i64 0, .int .i64 0, .int .i64 0, .int .i64 0, .string ⟨#[]⟩] 84)).drew.cell? ⟨w.heap.size, 3, none⟩ = some (.int .i64 (n : Nat)) ∧ ((w.alloc (.cells #[.int .i64 20, .int .i64 list, .int .i64 other, .int .i64 ((n : Nat)), .int .i64 mark, .int .i64 v.kind, .int .i64 v.n, .string v.s] 79)).alloc (.cells #[.int .i64 0, .int .i64 0, .int .i64 0, .int .i64 0, .string ⟨#[]⟩] 84)).drew.cell? ⟨g, 3, none⟩ = some (.slice (some ⟨b3, 0, none⟩) m.cnt cap3) ∧ ((w.alloc (.cells #[.int .i64 20, .int .i64 list, .int .i64 other, .int .i64 ((n : Nat)), .int .i64 mark, .int .i64 v.kind, .int .i64 v.n, .string v.s] 79)).alloc (.cells #[.int .i64 0, .int .i64 0, .int .i64 0, .int .i64 0, .string ⟨#[]⟩] 84)).drew.cell? ⟨b3, e * 6, none⟩ = some (.int .i64 x.kind) ∧ ((w.alloc (.cells #[.int .i64 20, .int .i64 list, .int .i64 other, .int .i64 ((n : Nat)), .int .i64 mark, .int .i64 v.kind, .int .i64 v.n, .string v.s] 79)).alloc (.cells #[.int .i64 0, .int .i64 0, .int .i64 0, .int .i64 0, .string ⟨#[]⟩] 84)).drew.cell? ⟨b3, e * 6 + 1, none⟩ = some (.int .i64 x.n) ∧ ((w.alloc (.cells #[.int .i64 20, .int .i64 list, .int .i64 other, .int .i64 ((n : Nat)), .int .i64 mark, .int .i64 v.kind, .int .i64 v.n, .string v.s] 79)).alloc (.cells #[.int .i64 0, .int .i64 0, .int .i64 0, .int .i64 0, .string ⟨#[]⟩] 84)).drew.cell? ⟨b3, e * 6 + 2, none⟩ = some (.string x.s) := ⟨c2, g2, y3, c3, e0, e1, e2⟩
  refine wpT_take (i := 0) (v := ?va0) rfl (by kernel_rfl) (fun _ _ _ h => h) rfl ?ya0 ?ra0
  case ya0 => ((intro wz; go_simp); try with_reducible rfl)
  try simp only [Act.put, List.setIfInBounds_toArray, List.set_cons_zero, List.set_cons_succ]
  refine wpT_take (i := 1) (v := ?va1) rfl (by kernel_rfl) (fun _ _ _ h => h) rfl ?ya1 ?ra1
  case ya1 => ((intro wz; go_simp); try with_reducible rfl)
  try simp only [Act.put, List.setIfInBounds_toArray, List.set_cons_zero, List.set_cons_succ]
  refine wpT_take (i := 2) (v := ?va2) rfl (by kernel_rfl) (fun _ _ _ h => h) rfl ?ya2 ?ra2
  case ya2 => ((intro wz; go_simp); try with_reducible rfl)
  try simp only [Act.put, List.setIfInBounds_toArray, List.set_cons_zero, List.set_cons_succ]
  refine wpT_load (i := 3) (v := ?va3) rfl (by kernel_rfl) (fun _ _ _ h => h) rfl ?ya3 HS ?ra3
  case ya3 => ((intro wz hSw; (try dsimp only at hSw); go_split_ands; go_simp); try with_reducible rfl)
  try simp only [Act.put, List.setIfInBounds_toArray, List.set_cons_zero, List.set_cons_succ]
  refine wpT_take (i := 4) (v := ?va4) rfl (by kernel_rfl) (fun _ _ _ h => h) rfl ?ya4 ?ra4
  case ya4 => ((intro wz; go_simp); try with_reducible rfl)
  try simp only [Act.put, List.setIfInBounds_toArray, List.set_cons_zero, List.set_cons_succ]
  refine wpT_take (i := 5) (v := ?va5) rfl (by kernel_rfl) (fun _ _ _ h => h) rfl ?ya5 ?ra5
  case ya5 => ((intro wz; go_simp); try with_reducible rfl)
  try simp only [Act.put, List.setIfInBounds_toArray, List.set_cons_zero, List.set_cons_succ]
  refine wpT_take (i := 6) (v := ?va6) rfl (by kernel_rfl) (fun _ _ _ h => h) rfl ?ya6 ?ra6
  case ya6 => ((intro wz; go_simp); try with_reducible rfl)
  try simp only [Act.put, List.setIfInBounds_toArray, List.set_cons_zero, List.set_cons_succ]
  refine wpT_load (i := 7) (v := ?va7) rfl (by kernel_rfl) (fun _ _ _ h => h) rfl ?ya7 HS ?ra7
  case ya7 => ((intro wz hSw; (try dsimp only at hSw); go_split_ands; go_simp); try with_reducible rfl)
  try simp only [Act.put, List.setIfInBounds_toArray, List.set_cons_zero, List.set_cons_succ]
  refine wpT_take (i := 8) (v := ?va8) rfl (by kernel_rfl) (fun _ _ _ h => h) rfl ?ya8 ?ra8
  case ya8 => ((intro wz; go_simp); try with_reducible rfl)
  try simp only [Act.put, List.setIfInBounds_toArray, List.set_cons_zero, List.set_cons_succ]
  refine wpT_load (i := 9) (v := ?va9) rfl (by kernel_rfl) (fun _ _ _ h => h) rfl ?ya9 HS ?ra9
  case ya9 => ((intro wz hSw; (try dsimp only at hSw); go_split_ands; go_simp); try with_reducible rfl)
  try simp only [Act.put, List.setIfInBounds_toArray, List.set_cons_zero, List.set_cons_succ]
  refine wpT_take (i := 10) (v := ?va10) rfl (by kernel_rfl) (fun _ _ _ h => h) rfl ?ya10 ?ra10
  case ya10 => ((intro wz; go_simp); try with_reducible rfl)
  try simp only [Act.put, List.setIfInBounds_toArray, List.set_cons_zero, List.set_cons_succ]
  refine wpT_load (i := 11) (v := ?va11) rfl (by kernel_rfl) (fun _ _ _ h => h) rfl ?ya11 HS ?ra11
  case ya11 => ((intro wz hSw; (try dsimp only at hSw); go_split_ands; go_simp); try with_reducible rfl)
  try simp only [Act.put, List.setIfInBounds_toArray, List.set_cons_zero, List.set_cons_succ]
  refine wpT_take (i := 12) (v := ?va12) rfl (by kernel_rfl) (fun _ _ _ h => h) rfl ?ya12 ?ra12
  case ya12 => ((intro wz; go_simp); try with_reducible rfl)
  try simp only [Act.put, List.setIfInBounds_toArray, List.set_cons_zero, List.set_cons_succ]
  refine wpT_take (i := 13) (v := ?va13) rfl (by kernel_rfl) (fun _ _ _ h => h) rfl ?ya13 ?ra13
  case ya13 => ((intro wz; go_simp); try with_reducible rfl)
  try simp only [Act.put, List.setIfInBounds_toArray, List.set_cons_zero, List.set_cons_succ]
  refine wpT_load (i := 14) (v := ?va14) rfl (by kernel_rfl) (fun _ _ _ h => h) rfl ?ya14 HS ?ra14
  case ya14 => ((intro wz hSw; (try dsimp only at hSw); go_split_ands; go_simp); try with_reducible rfl)
  try simp only [Act.put, List.setIfInBounds_toArray, List.set_cons_zero, List.set_cons_succ]
  refine wpT_take (i := 15) (v := ?va15) rfl (by kernel_rfl) (fun _ _ _ h => h) rfl ?ya15 ?ra15
  case ya15 => ((intro wz; go_simp); try with_reducible rfl)
  try simp only [Act.put, List.setIfInBounds_toArray, List.set_cons_zero, List.set_cons_succ]
  refine wpT_run (i := 16) (by kernel_rfl) rfl rfl ?_
  go_simp
  refine ⟨trivial, wpT_done (by kernel_rfl) ?_ _⟩
  go_wp2
  refine bodyPost_ret (v := An.agg' ⟨-1, 0, x⟩) ?_ rfl ⟨rfl, ?_⟩
  · simp [results, Try.results54, go_sem, An.agg']
  · exact SP.of_below H.out (below2 _ _ _).drew

/-- The parts of a value are written. -/
theorem SR.setVal {w : World} {B g b3 cap : Nat} {m : Md} {v0 v1 v2 : Value} {ls : Nat → Value} (h : SR w B g m v0 v1 v2 (.slice (some ⟨b3, 0, none⟩) m.cnt cap) ls) {e : Nat} (he : e < m.cnt) (x : Vl) :
    SR (((w.setCell ⟨b3, e * 6, none⟩ (.int .i64 x.kind)).setCell ⟨b3, e * 6 + 1, none⟩ (.int .i64 x.n)).setCell ⟨b3, e * 6 + 2, none⟩ (.string x.s)) B g { m with val := upd m.val e x } v0 v1 v2 (.slice (some ⟨b3, 0, none⟩) m.cnt cap) ls := by
  have s1 := SR.set3 (m' := { m with val := upd m.val e ⟨x.kind, (m.val e).n, (m.val e).s⟩ }) h he (j := 0) (by decide) (.int .i64 x.kind) ⟨rfl, rfl, rfl, rfl, rfl⟩ (by simp [ecells, upd_same]) (fun k hk => by simp only [ecells]; rw [upd_other _ _ hk])
  have s2 := SR.set3 (m' := { m with val := upd m.val e ⟨x.kind, x.n, (m.val e).s⟩ }) s1 he (j := 1) (by decide) (.int .i64 x.n) ⟨rfl, rfl, rfl, rfl, rfl⟩ (by simp [ecells, upd_same]) (fun k hk => by simp only [ecells]; rw [upd_other _ _ hk, upd_other _ _ hk])
  exact SR.set3 (m' := { m with val := upd m.val e x }) s2 he (j := 2) (by decide) (.string x.s) ⟨rfl, rfl, rfl, rfl, rfl⟩ (by simp [ecells, upd_same]) (fun k hk => by simp only [ecells]; rw [upd_other _ _ hk, upd_other _ _ hk])

set_option maxHeartbeats 1000000 in
theorem lk_21 {w : World} {B g : Nat} {F : Nat → Prop} {m : Md} (h : ST w B g F m) (hw : WF m) {i : Nat} (hi : i < m.len) (hlen : m.len ≤ 4611686018427387904) (hcnt : m.cnt ≤ 500) (hsz : ∀ l, (m.seq l).length ≤ 500) {list other mark : Int} {v : Vl} {n e : Nat} (hn : n < m.len) (hr : m.ret n = some e) :
    Calls Try.prog 54 #[.pointer (some ⟨g, 0, none⟩), .int .i64 i, Cl.agg' ⟨21, list, other, n, mark, v⟩] w fun r w' => r = .returned (m.look i ⟨21, list, other, n, mark, v⟩).2.agg' ∧ SP w w' B g F (m.look i ⟨21, list, other, n, mark, v⟩).1 := by
  have F0 := FrA.start h ⟨21, list, other, n, mark, v⟩
  have FA := Lib.hid F0; have HW := Lib.hid hw
  have he := (hw.rlt n e hr).2
  obtain ⟨v0, v1, v2, v3, ls, hs⟩ := F0.sp.sr
  have c2 := hs.c2
  have c3 := hs.c3
  obtain ⟨b2, cap2, rfl, g2, _⟩ := hs.at2 hn
  obtain ⟨b3, cap3, rfl, _, _⟩ := hs.at3 he
  rw [hr, optI_some] at g2
  have e0 := hs.el (j := 0) he rfl; have e1 := hs.el (j := 1) he rfl; have e2 := hs.el (j := 2) he rfl
  have y3 := F0.toFr.cell (j := 3) rfl
  have heI : ((e : Nat) : Int) < (m.cnt : Nat) := by omega
  have y5 := F0.toFr.cell (j := 5) rfl; have y6 := F0.toFr.cell (j := 6) rfl; have y7 := F0.toFr.cell (j := 7) rfl
  have e9 : m.look i ⟨21, list, other, n, mark, v⟩ = ({ m with val := upd m.val e (canon v) }, An.no) := by
    show (match m.ret (((n : Nat) : Int)).toNat with | none => (m, An.no) | some e => _) = _
    rw [Int.toNat_natCast, hr]; rfl
  rw [e9]
  have HC := Lib.hid (canon_c v)
  unfold Vl.agg at HC
  have CELL : ∀ {W1 : World}, Below ((w.alloc (.cells (Cl.arr ⟨21, list, other, n, mark, v⟩) 79)).alloc sAnsBlock).drew.heap.size ((w.alloc (.cells (Cl.arr ⟨21, list, other, n, mark, v⟩) 79)).alloc sAnsBlock).drew W1 → SP w W1 B g F m ∧ FrA w W1 B g F m ⟨21, list, other, n, mark, v⟩ := fun hb => ⟨(F0.drew.next (SP.of_below F0.drew.sp.st hb)).sp, F0.drew.next (SP.of_below F0.drew.sp.st hb)⟩
  have KEEP : ∀ {W1 : World} {p : Addr} {y : Value}, Below ((w.alloc (.cells (Cl.arr ⟨21, list, other, n, mark, v⟩) 79)).alloc sAnsBlock).drew.heap.size ((w.alloc (.cells (Cl.arr ⟨21, list, other, n, mark, v⟩) 79)).alloc sAnsBlock).drew W1 → ((w.alloc (.cells (Cl.arr ⟨21, list, other, n, mark, v⟩) 79)).alloc sAnsBlock).cell? p = some y → W1.cell? p = some y := fun hb hc => (hb.cell (World.block_lt_of_cell? ((w.alloc (.cells (Cl.arr ⟨21, list, other, n, mark, v⟩) 79)).alloc sAnsBlock) _ hc)).trans hc
  unfold Cl.agg'
  simp only [Cl.arr, sAnsBlock] at c2 c3 g2 y3 y5 y6 y7 CELL KEEP
  clear h hw hs F0 e9 hr e0 e1 e2
  go_enter Try.func54, Try.ntmps54
  go_wp2_with fail
  refine wp_region_T (fun w' => w'.cell? ⟨g, 2, none⟩ = some (.slice (some ⟨b2, 0, none⟩) m.len cap2) ∧ w'.cell? ⟨b2, n, none⟩ = some (.int .i64 (e : Nat)) ∧ w'.cell? ⟨w.heap.size, 3, none⟩ = some (.int .i64 (n : Nat)) ∧ w'.cell? ⟨g, 3, none⟩ = some (.slice (some ⟨b3, 0, none⟩) m.cnt cap3) ∧ w'.cell? ⟨w.heap.size, 5, none⟩ = some (.int .i64 v.kind) ∧ w'.cell? ⟨w.heap.size, 6, none⟩ = some (.int .i64 v.n) ∧ w'.cell? ⟨w.heap.size, 7, none⟩ = some (.string v.s)) [14] [17] run_mixed ?_
  simp only [List.size_toArray, List.length_cons, List.length_nil]
  have HS : ((w.alloc (.cells #[.int .i64 21, .int .i64 list, .int .i64 other, .int .i64 ((n : Nat)), .int .i64 mark, .int .i64 v.kind, .int .i64 v.n, .string v.s] 79)).alloc (.cells #[.int .i64 0, .int .i64 0, .int .i64 0, .int .i64 0, .string ⟨#[]⟩] 84)).drew.cell? ⟨g, 2, none⟩ = some (.slice (some ⟨b2, 0, none⟩) m.len cap2) ∧ ((w.alloc (.cells #[.int .i64 21, .int .i64 list, .int .i64 other, .int .i64 ((n : Nat)), .int .i64 mark, .int .i64 v.kind, .int .i64 v.n, .string v.s] 79)).alloc (.cells #[.int .i64 0, .int .i64 0, .int .i64 0, .int .i64 0, .string ⟨#[]⟩] 84)).drew.cell? ⟨b2, n, none⟩ = some (.int .i64 (e : Nat)) ∧ ((w.alloc (.cells #[.int .i64 21, .int .i64 list, .int .i64 other, .int .i64 ((n : Nat)), .int .i64 mark, .int .i64 v.kind, .int .i64 v.n, .string v.s] 79)).alloc (.cells #[.int .i64 0, .int .i64 0, .int .i64 0, .int .i64 0, .string ⟨#[]⟩] 84)).drew.cell? ⟨w.heap.size, 3, none⟩ = some (.int .i64 (n : Nat)) ∧ ((w.alloc (.cells #[.int .i64 21, .int .i64 list, .int .i64 other, .int .i64 ((n : Nat)), .int .i64 mark, .int .i64 v.kind, .int .i64 v.n, .string v.s] 79)).alloc (.cells #[.int .i64 0, .int .i64 0, .int .i64 0, .int .i64 0, .string ⟨#[]⟩] 84)).drew.cell? ⟨g, 3, none⟩ = some (.slice (some ⟨b3, 0, none⟩) m.cnt cap3) ∧ ((w.alloc (.cells #[.int .i64 21, .int .i64 list, .int .i64 other, .int .i64 ((n : Nat)), .int .i64 mark, .int .i64 v.kind, .int .i64 v.n, .string v.s] 79)).alloc (.cells #[.int .i64 0, .int .i64 0, .int .i64 0, .int .i64 0, .string ⟨#[]⟩] 84)).drew.cell? ⟨w.heap.size, 5, none⟩ = some (.int .i64 v.kind) ∧ ((w.alloc (.cells #[.int .i64 21, .int .i64 list, .int .i64 other, .int .i64 ((n : Nat)), .int .i64 mark, .int .i64 v.kind, .int .i64 v.n, .string v.s] 79)).alloc (.cells #[.int .i64 0, .int .i64 0, .int .i64 0, .int .i64 0, .string ⟨#[]⟩] 84)).drew.cell? ⟨w.heap.size, 6, none⟩ = some (.int .i64 v.n) ∧ ((w.alloc (.cells #[.int .i64 21, .int .i64 list, .int .i64 other, .int .i64 ((n : Nat)), .int .i64 mark, .int .i64 v.kind, .int .i64 v.n, .string v.s] 79)).alloc (.cells #[.int .i64 0, .int .i64 0, .int .i64 0, .int .i64 0, .string ⟨#[]⟩] 84)).drew.cell? ⟨w.heap.size, 7, none⟩ = some (.string v.s) := ⟨c2, g2, y3, c3, y5, y6, y7⟩
  refine wpT_take (i := 0) (v := ?va0) rfl (by kernel_rfl) (fun _ _ _ h => h) rfl ?ya0 ?ra0
  case ya0 => ((intro wz; go_simp); try with_reducible rfl)
  try simp only [Act.put, List.setIfInBounds_toArray, List.set_cons_zero, List.set_cons_succ]
  refine wpT_take (i := 1) (v := ?va1) rfl (by kernel_rfl) (fun _ _ _ h => h) rfl ?ya1 ?ra1
  case ya1 => ((intro wz; go_simp); try with_reducible rfl)
  try simp only [Act.put, List.setIfInBounds_toArray, List.set_cons_zero, List.set_cons_succ]
  refine wpT_take (i := 2) (v := ?va2) rfl (by kernel_rfl) (fun _ _ _ h => h) rfl ?ya2 ?ra2
  case ya2 => ((intro wz; go_simp); try with_reducible rfl)
  try simp only [Act.put, List.setIfInBounds_toArray, List.set_cons_zero, List.set_cons_succ]
  refine wpT_load (i := 3) (v := ?va3) rfl (by kernel_rfl) (fun _ _ _ h => h) rfl ?ya3 HS ?ra3
  case ya3 => ((intro wz hSw; (try dsimp only at hSw); go_split_ands; go_simp); try with_reducible rfl)
  try simp only [Act.put, List.setIfInBounds_toArray, List.set_cons_zero, List.set_cons_succ]
  refine wpT_take (i := 4) (v := ?va4) rfl (by kernel_rfl) (fun _ _ _ h => h) rfl ?ya4 ?ra4
  case ya4 => ((intro wz; go_simp); try with_reducible rfl)
  try simp only [Act.put, List.setIfInBounds_toArray, List.set_cons_zero, List.set_cons_succ]
  refine wpT_take (i := 5) (v := ?va5) rfl (by kernel_rfl) (fun _ _ _ h => h) rfl ?ya5 ?ra5
  case ya5 => ((intro wz; go_simp); try with_reducible rfl)
  try simp only [Act.put, List.setIfInBounds_toArray, List.set_cons_zero, List.set_cons_succ]
  refine wpT_take (i := 6) (v := ?va6) rfl (by kernel_rfl) (fun _ _ _ h => h) rfl ?ya6 ?ra6
  case ya6 => ((intro wz; go_simp); try with_reducible rfl)
  try simp only [Act.put, List.setIfInBounds_toArray, List.set_cons_zero, List.set_cons_succ]
  refine wpT_load (i := 7) (v := ?va7) rfl (by kernel_rfl) (fun _ _ _ h => h) rfl ?ya7 HS ?ra7
  case ya7 => ((intro wz hSw; (try dsimp only at hSw); go_split_ands; go_simp); try with_reducible rfl)
  try simp only [Act.put, List.setIfInBounds_toArray, List.set_cons_zero, List.set_cons_succ]
  refine wpT_take (i := 8) (v := ?va8) rfl (by kernel_rfl) (fun _ _ _ h => h) rfl ?ya8 ?ra8
  case ya8 => ((intro wz; go_simp); try with_reducible rfl)
  try simp only [Act.put, List.setIfInBounds_toArray, List.set_cons_zero, List.set_cons_succ]
  refine wpT_load (i := 9) (v := ?va9) rfl (by kernel_rfl) (fun _ _ _ h => h) rfl ?ya9 HS ?ra9
  case ya9 => ((intro wz hSw; (try dsimp only at hSw); go_split_ands; go_simp); try with_reducible rfl)
  try simp only [Act.put, List.setIfInBounds_toArray, List.set_cons_zero, List.set_cons_succ]
  refine wpT_take (i := 10) (v := ?va10) rfl (by kernel_rfl) (fun _ _ _ h => h) rfl ?ya10 ?ra10
  case ya10 => ((intro wz; go_simp); try with_reducible rfl)
  try simp only [Act.put, List.setIfInBounds_toArray, List.set_cons_zero, List.set_cons_succ]
  refine wpT_load (i := 11) (v := ?va11) rfl (by kernel_rfl) (fun _ _ _ h => h) rfl ?ya11 HS ?ra11
  case ya11 => ((intro wz hSw; (try dsimp only at hSw); go_split_ands; go_simp); try with_reducible rfl)
  try simp only [Act.put, List.setIfInBounds_toArray, List.set_cons_zero, List.set_cons_succ]
  refine wpT_take (i := 12) (v := ?va12) rfl (by kernel_rfl) (fun _ _ _ h => h) rfl ?ya12 ?ra12
  case ya12 => ((intro wz; go_simp); try with_reducible rfl)
  try simp only [Act.put, List.setIfInBounds_toArray, List.set_cons_zero, List.set_cons_succ]
  refine wpT_load (i := 13) (v := ?va13) rfl (by kernel_rfl) (fun _ _ _ h => h) rfl ?ya13 HS ?ra13
  case ya13 => ((intro wz hSw; (try dsimp only at hSw); go_split_ands; go_simp); try with_reducible rfl)
  try simp only [Act.put, List.setIfInBounds_toArray, List.set_cons_zero, List.set_cons_succ]
  refine wpT_run (i := 14) (by kernel_rfl) rfl rfl ?_
  go_simp
  refine (HC.out _).mono ?_
  rintro r w1 ⟨rfl, hb⟩
  have HS1 : w1.cell? ⟨g, 2, none⟩ = some (.slice (some ⟨b2, 0, none⟩) m.len cap2) ∧ w1.cell? ⟨b2, n, none⟩ = some (.int .i64 (e : Nat)) ∧ w1.cell? ⟨w.heap.size, 3, none⟩ = some (.int .i64 (n : Nat)) ∧ w1.cell? ⟨g, 3, none⟩ = some (.slice (some ⟨b3, 0, none⟩) m.cnt cap3) ∧ w1.cell? ⟨w.heap.size, 5, none⟩ = some (.int .i64 v.kind) ∧ w1.cell? ⟨w.heap.size, 6, none⟩ = some (.int .i64 v.n) ∧ w1.cell? ⟨w.heap.size, 7, none⟩ = some (.string v.s) := ⟨KEEP hb c2, KEEP hb g2, KEEP hb y3, KEEP hb c3, KEEP hb y5, KEEP hb y6, KEEP hb y7⟩
  have F1 := Lib.hid (CELL hb).2
  clear hb CELL KEEP
  obtain ⟨x0, x1, x2, x3, xs, hq1, hf, hF⟩ := F1.out.sp.st
  have c3' := hq1.c3
  rw [HS1.2.2.2.1] at c3'
  simp only [Option.some.injEq] at c3'
  subst c3'
  have o0 := hq1.el (j := 0) he rfl; have o1 := hq1.el (j := 1) he rfl; have o2 := hq1.el (j := 2) he rfl
  have z0 := hq1.elz (e * 6); have z1 := hq1.elz (e * 6 + 1); have z2 := hq1.elz (e * 6 + 2)
  simp only [Nat.add_zero] at o0
  have hq2 := hq1.setVal he (canon v)
  have F2 := Lib.hid (F1.out.next (SP.stored hf hF hq2 ((((Keeps.refl _ _).setCell (p := ⟨b3, e * 6, none⟩) (fun _ => hf b3 (.inr (.inr (.inr (.inr rfl))))) _).setCell (p := ⟨b3, e * 6 + 1, none⟩) (fun _ => hf b3 (.inr (.inr (.inr (.inr rfl))))) _).setCell (p := ⟨b3, e * 6 + 2, none⟩) (fun _ => hf b3 (.inr (.inr (.inr (.inr rfl))))) _)))
  obtain ⟨f5, d0, d1, d2, d3, d4⟩ := F2.out.acells
  clear hq1 hq2 hf hF
  refine ⟨cond_R (by decide) (by decide) HS1, ?_⟩
  refine wpT_take (i := 15) (v := ?vb15) rfl (by kernel_rfl) (fun _ _ _ h => h) rfl ?yb15 ?rb15
  case yb15 => ((intro wz; go_simp); try with_reducible rfl)
  try simp only [Act.put, List.setIfInBounds_toArray, List.set_cons_zero, List.set_cons_succ]
  refine wpT_take (i := 16) (v := ?vb16) rfl (by kernel_rfl) (fun _ _ _ h => h) rfl ?yb16 ?rb16
  case yb16 => ((intro wz; go_simp); try with_reducible rfl)
  try simp only [Act.put, List.setIfInBounds_toArray, List.set_cons_zero, List.set_cons_succ]
  refine wpT_run (i := 17) (by kernel_rfl) rfl rfl ?_
  go_simp
  refine ⟨trivial, wpT_done (by kernel_rfl) ?_ _⟩
  go_wp2
  refine bodyPost_ret (v := An.no.agg') ?_ rfl ⟨rfl, F2.out.fin An.no⟩
  simp [results, Try.results54, go_sem, An.agg', An.no, Vl.zero, f5, d0, d1, d2, d3, d4]
  rfl

theorem Int_nat {n : Int} (h : 0 ≤ n) : ∃ k : Nat, n = (k : Nat) := Int.eq_ofNat_of_zero_le h

/-- change, for every permitted call. -/
theorem schange_c {w : World} {B g : Nat} {F : Nat → Prop} {m : Md} (h : ST w B g F m) (hw : WF m) {i : Nat} (hi : i < m.len) (hlen : m.len ≤ 4611686018427387904) (hcnt : m.cnt ≤ 500) (hsz : ∀ l, (m.seq l).length ≤ 500) {c : Cl} (hp : Permitted 500 m c) (h3 : 3 ≤ c.op) (h14 : c.op ≤ 14) :
    Calls Try.prog 53 #[.pointer (some ⟨g, 0, none⟩), .int .i64 i, c.agg'] w fun r w' => r = .returned (m.change i c).2.agg' ∧ SP w w' B g F (m.change i c).1 := by
  obtain ⟨op, list, other, elem, mark, v⟩ := c
  have hL := hp.list h3 (Int.le_trans h14 (by decide))
  simp only at h3 h14 hL
  obtain ⟨l, rfl⟩ := Int_nat hL.1
  have hl : m.isL l = true := by simpa using hL.2.2
  have cases : op = 3 ∨ op = 4 ∨ op = 5 ∨ op = 6 ∨ op = 7 ∨ op = 8 ∨ op = 9 ∨ op = 10 ∨ op = 11 ∨ op = 12 ∨ op = 13 ∨ op = 14 := by omega
  have E : ((7 ≤ op ∧ op ≤ 11) ∨ 18 ≤ op) → ∃ n e : Nat, elem = (n : Nat) ∧ n < m.len ∧ m.ret n = some e := fun q => by
    obtain ⟨a, b, e, c⟩ := hp.elem q
    simp only at a b c
    obtain ⟨n, rfl⟩ := Int_nat a
    exact ⟨n, e, rfl, by omega, by simpa using c⟩
  have K : (op = 5 ∨ op = 6 ∨ op = 9 ∨ op = 10) → ∃ n e : Nat, mark = (n : Nat) ∧ n < m.len ∧ m.ret n = some e := fun q => by
    obtain ⟨a, b, e, c⟩ := hp.mark q
    simp only at a b c
    obtain ⟨n, rfl⟩ := Int_nat a
    exact ⟨n, e, rfl, by omega, by simpa using c⟩
  have O : (op = 12 ∨ op = 13) → ∃ o : Nat, other = (o : Nat) ∧ m.isL o = true ∧ m.cnt + (m.seq o).length ≤ 500 := fun q => by
    obtain ⟨a, b, c⟩ := hp.other q
    have r := hp.room q
    simp only at a b c r
    obtain ⟨n, rfl⟩ := Int_nat a
    exact ⟨n, rfl, by simpa using c, by simpa using r⟩
  have SP := hp.space
  simp only at SP
  rcases cases with rfl | rfl | rfl | rfl | rfl | rfl | rfl | rfl | rfl | rfl | rfl | rfl
  · exact ch_3 h hw hi hlen hcnt hsz hl (SP (by decide))
  · exact ch_4 h hw hi hlen hcnt hsz hl (SP (by decide))
  · obtain ⟨p, k, rfl, hp1, hp2⟩ := K (by decide)
    exact ch_5 h hw hi hlen hcnt hsz hl hp1 hp2
  · obtain ⟨p, k, rfl, hp1, hp2⟩ := K (by decide)
    exact ch_6 h hw hi hlen hcnt hsz hl hp1 hp2
  · obtain ⟨n, e, rfl, hn, hr⟩ := E (by decide)
    exact ch_7 h hw hi hlen hcnt hsz hl hn hr
  · obtain ⟨n, e, rfl, hn, hr⟩ := E (by decide)
    exact ch_8 h hw hi hlen hcnt hsz hl hn hr
  · obtain ⟨n, e, rfl, hn, hr⟩ := E (by decide)
    obtain ⟨p, k, rfl, hp1, hp2⟩ := K (by decide)
    exact ch_9 h hw hi hlen hcnt hsz hl hn hr hp1 hp2
  · obtain ⟨n, e, rfl, hn, hr⟩ := E (by decide)
    obtain ⟨p, k, rfl, hp1, hp2⟩ := K (by decide)
    exact ch_10 h hw hi hlen hcnt hsz hl hn hr hp1 hp2
  · obtain ⟨n, e, rfl, hn, hr⟩ := E (by decide)
    exact ch_11 h hw hi hlen hcnt hsz hl hn hr
  · obtain ⟨o, rfl, ho, hro⟩ := O (by decide)
    exact ch_12 h hw hi hlen hcnt hsz hl ho hro
  · obtain ⟨o, rfl, ho, hro⟩ := O (by decide)
    exact ch_13 h hw hi hlen hcnt hsz hl ho hro
  · exact ch_14 h hw hi hlen hcnt hsz hl

/-- look, for every permitted call. -/
theorem slook_c {w : World} {B g : Nat} {F : Nat → Prop} {m : Md} (h : ST w B g F m) (hw : WF m) {i : Nat} (hi : i < m.len) (hlen : m.len ≤ 4611686018427387904) (hcnt : m.cnt ≤ 500) (hsz : ∀ l, (m.seq l).length ≤ 500) {c : Cl} (hp : Permitted 500 m c) (hno : ¬ (3 ≤ c.op ∧ c.op ≤ 14)) :
    Calls Try.prog 54 #[.pointer (some ⟨g, 0, none⟩), .int .i64 i, c.agg'] w fun r w' => r = .returned (m.look i c).2.agg' ∧ SP w w' B g F (m.look i c).1 := by
  obtain ⟨op, list, other, elem, mark, v⟩ := c
  have hlo := hp.lo
  have hhi := hp.hi
  simp only at hno hlo hhi
  have cases : op = 0 ∨ op = 1 ∨ op = 2 ∨ op = 15 ∨ op = 16 ∨ op = 17 ∨ op = 18 ∨ op = 19 ∨ op = 20 ∨ op = 21 := by omega
  have L : (3 ≤ op ∧ op ≤ 17) → ∃ l : Nat, list = (l : Nat) ∧ m.isL l = true := fun q => by
    obtain ⟨a, b, c⟩ := hp.list q.1 q.2
    simp only at a b c
    obtain ⟨n, rfl⟩ := Int_nat a
    exact ⟨n, rfl, by simpa using c⟩
  have E : ((7 ≤ op ∧ op ≤ 11) ∨ 18 ≤ op) → ∃ n e : Nat, elem = (n : Nat) ∧ n < m.len ∧ m.ret n = some e := fun q => by
    obtain ⟨a, b, e, c⟩ := hp.elem q
    simp only at a b c
    obtain ⟨n, rfl⟩ := Int_nat a
    exact ⟨n, e, rfl, by omega, by simpa using c⟩
  have SP := hp.space
  simp only at SP
  rcases cases with rfl | rfl | rfl | rfl | rfl | rfl | rfl | rfl | rfl | rfl
  · exact lk_0 h hw hi hlen hcnt hsz
  · exact lk_1 h hw hi hlen hcnt hsz
  · exact lk_2 h hw hi hlen hcnt hsz (SP (by decide))
  · obtain ⟨l, rfl, hl⟩ := L (by decide)
    exact lk_15 h hw hi hlen hcnt hsz hl
  · obtain ⟨l, rfl, hl⟩ := L (by decide)
    exact lk_16 h hw hi hlen hcnt hsz hl
  · obtain ⟨l, rfl, hl⟩ := L (by decide)
    exact lk_17 h hw hi hlen hcnt hsz hl
  · obtain ⟨n, e, rfl, hn, hr⟩ := E (by decide)
    exact lk_18 h hw hi hlen hcnt hsz hn hr
  · obtain ⟨n, e, rfl, hn, hr⟩ := E (by decide)
    exact lk_19 h hw hi hlen hcnt hsz hn hr
  · obtain ⟨n, e, rfl, hn, hr⟩ := E (by decide)
    exact lk_20 h hw hi hlen hcnt hsz hn hr
  · obtain ⟨n, e, rfl, hn, hr⟩ := E (by decide)
    exact lk_21 h hw hi hlen hcnt hsz hn hr
end Bead
end Go.Proofs.Ytidnmanljdadaaa
