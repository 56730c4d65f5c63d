/- The reference's method change (printed by gen_spec12.py). -/
import Derived.Test.YtidnmanljdadaaaSpec10
import Derived.Test.YtidnmanljdadaaaSpec11
set_option linter.all false
namespace Go.Proofs.Ytidnmanljdadaaa
open Go.RowKit
namespace Bead
set_option maxRecDepth 100000

section
variable {w W : World} {B g : Nat} {F : Nat → Prop} {m : Md} {c : Cl}
theorem FrA.drew (h : FrA w W B g F m c) : FrA w W.drew B g F m c := h.drewN 1
/-- What a drawn region reads of a list. -/
theorem SR.lst {v0 v1 v2 v3 : Value} {ls : Nat → Value} (h : SR w B g m v0 v1 v2 v3 ls) {l : Nat} (hl : l < m.len) : ∃ b1 cap1 a cap, v1 = .slice (some ⟨b1, 0, none⟩) m.len cap1 ∧ w.cell? ⟨g, 1, none⟩ = some (.slice (some ⟨b1, 0, none⟩) m.len cap1) ∧ w.cell? ⟨b1, l, none⟩ = some (.slice a (m.seq l).length cap) := by
  have c1 := h.c1
  obtain ⟨b1, cap1, rfl, cl, _⟩ := h.at1 hl
  obtain ⟨a, cap, hx⟩ := (h.ll l hl).form
  rw [hx] at cl
  exact ⟨b1, cap1, a, cap, rfl, c1, cl⟩
end

set_option maxHeartbeats 1000000 in
theorem ch_3 {w : World} {B g : Nat} {F : Nat → Prop} {m : Md} (h : ST w B g F m) (hw : WF m) {i : Nat} (hi : i < m.len) (hlen : m.len ≤ 4611686018427387904) (hcnt : m.cnt ≤ 500) (hsz : ∀ l, (m.seq l).length ≤ 500) {other elem mark : Int} {v : Vl} {l : Nat} (hl : m.isL l = true) (hmk : m.cnt < 500) :
    Calls Try.prog 53 #[.pointer (some ⟨g, 0, none⟩), .int .i64 i, Cl.agg' ⟨3, l, other, elem, mark, v⟩] w fun r w' => r = .returned (m.change i ⟨3, l, other, elem, mark, v⟩).2.agg' ∧ SP w w' B g F (m.change i ⟨3, l, other, elem, mark, v⟩).1 := by
  have F0 := FrA.start h ⟨3, l, other, elem, mark, v⟩
  have FA := Lib.hid F0; have HW := Lib.hid hw
  clear h hw F0
  unfold Cl.agg'
  have hll := HW.out.isl l hl
  have hs1 := hsz l
  go_enter Try.func53, Try.ntmps53
  go_wp2_with fail
  refine (make_c FA.out.sp.st v (some l) (HW.out.out m.cnt (Nat.le_refl _)).2.1 (HW.out.out m.cnt (Nat.le_refl _)).2.2 (by omega)).mono ?_
  rintro r w1 ⟨rfl, S1⟩
  have F1 := Lib.hid (FA.out.next S1)
  have y1 := F1.out.toFr.cell (j := 1) rfl
  clear S1
  go_wp2_with fail
  refine (put_c (l := l) (k := 0) (e := m.cnt) F1.out.sp.st hll (Nat.zero_le _) hlen (by show (m.seq l).length ≤ _; omega)).mono ?_
  rintro r w2 ⟨rfl, S2⟩
  have F2 := Lib.hid (F1.out.next S2)
  clear S2
  go_wp2_with fail
  refine (answer_some (i := i) (e := m.cnt) F2.out.sp.st hi (Nat.lt_succ_self m.cnt) hlen (by show m.cnt + 1 ≤ _; omega)).mono ?_
  rintro r w3 ⟨rfl, S3⟩
  have F3 := Lib.hid (F2.out.next S3)
  clear S3
  obtain ⟨f5, d0, d1, d2, d3, d4⟩ := F3.out.acells
  generalize hq : Md.num _ _ _ = q
  have HQ := Lib.hid hq
  clear hq
  unfold An.agg'
  go_wp2
  refine bodyPost_ret (v := q.agg') ?_ rfl ⟨?_, F3.out.fin q⟩
  · simp [results, Try.results53, go_sem, An.agg', f5, d0, d1, d2, d3, d4]
  · rw [← HQ.out]; try rfl

set_option maxHeartbeats 1000000 in
theorem ch_4 {w : World} {B g : Nat} {F : Nat → Prop} {m : Md} (h : ST w B g F m) (hw : WF m) {i : Nat} (hi : i < m.len) (hlen : m.len ≤ 4611686018427387904) (hcnt : m.cnt ≤ 500) (hsz : ∀ l, (m.seq l).length ≤ 500) {other elem mark : Int} {v : Vl} {l : Nat} (hl : m.isL l = true) (hmk : m.cnt < 500) :
    Calls Try.prog 53 #[.pointer (some ⟨g, 0, none⟩), .int .i64 i, Cl.agg' ⟨4, l, other, elem, mark, v⟩] w fun r w' => r = .returned (m.change i ⟨4, l, other, elem, mark, v⟩).2.agg' ∧ SP w w' B g F (m.change i ⟨4, l, other, elem, mark, v⟩).1 := by
  have F0 := FrA.start h ⟨4, l, other, elem, mark, v⟩
  have FA := Lib.hid F0; have HW := Lib.hid hw
  clear h hw F0
  unfold Cl.agg'
  have hll := HW.out.isl l hl
  have hs1 := hsz l
  go_enter Try.func53, Try.ntmps53
  go_wp2_with fail
  refine (make_c FA.out.sp.st v (some l) (HW.out.out m.cnt (Nat.le_refl _)).2.1 (HW.out.out m.cnt (Nat.le_refl _)).2.2 (by omega)).mono ?_
  rintro r w1 ⟨rfl, S1⟩
  have F1 := Lib.hid (FA.out.next S1)
  have y1 := F1.out.toFr.cell (j := 1) rfl
  clear S1
  obtain ⟨x0, x1, x2, x3, xs, hs⟩ := F1.out.sp.sr
  obtain ⟨b1, cap1, a1, cap2, _, c1', cl'⟩ := hs.lst (l := l) hll
  have c1 : w1.cell? ⟨g, 1, none⟩ = some (.slice (some ⟨b1, 0, none⟩) m.len cap1) := c1'
  have cl : w1.cell? ⟨b1, l, none⟩ = some (.slice a1 (m.seq l).length cap2) := cl'
  clear hs c1' cl'
  go_wp2_with fail
  refine wp_region_T (fun w' => w'.cell? ⟨g, 1, none⟩ = some (.slice (some ⟨b1, 0, none⟩) m.len cap1) ∧ w'.cell? ⟨b1, l, none⟩ = some (.slice a1 (m.seq l).length cap2) ∧ w'.cell? ⟨w.heap.size, 1, none⟩ = some (.int .i64 (l : Nat))) [] [13] run_mixed ?_
  simp only [List.size_toArray, List.length_cons, List.length_nil]
  have HS : w1.drew.cell? ⟨g, 1, none⟩ = some (.slice (some ⟨b1, 0, none⟩) m.len cap1) ∧ w1.drew.cell? ⟨b1, l, none⟩ = some (.slice a1 (m.seq l).length cap2) ∧ w1.drew.cell? ⟨w.heap.size, 1, none⟩ = some (.int .i64 (l : Nat)) := ⟨c1, cl, y1⟩
  refine wpT_take (i := 0) (v := ?va0) rfl (by kernel_rfl) (fun _ _ _ h => h) rfl ?ya0 ?ra0
  case ya0 => ((intro wz; go_simp); try with_reducible rfl)
  try simp only [Act.put, List.setIfInBounds_toArray, List.set_cons_zero, List.set_cons_succ]
  refine wpT_take (i := 1) (v := ?va1) rfl (by kernel_rfl) (fun _ _ _ h => h) rfl ?ya1 ?ra1
  case ya1 => ((intro wz; go_simp); try with_reducible rfl)
  try simp only [Act.put, List.setIfInBounds_toArray, List.set_cons_zero, List.set_cons_succ]
  refine wpT_load (i := 2) (v := ?va2) rfl (by kernel_rfl) (fun _ _ _ h => h) rfl ?ya2 HS ?ra2
  case ya2 => ((intro wz hSw; (try dsimp only at hSw); go_split_ands; go_simp); try with_reducible rfl)
  try simp only [Act.put, List.setIfInBounds_toArray, List.set_cons_zero, List.set_cons_succ]
  refine wpT_take (i := 3) (v := ?va3) rfl (by kernel_rfl) (fun _ _ _ h => h) rfl ?ya3 ?ra3
  case ya3 => ((intro wz; go_simp); try with_reducible rfl)
  try simp only [Act.put, List.setIfInBounds_toArray, List.set_cons_zero, List.set_cons_succ]
  refine wpT_take (i := 4) (v := ?va4) rfl (by kernel_rfl) (fun _ _ _ h => h) rfl ?ya4 ?ra4
  case ya4 => ((intro wz; go_simp); try with_reducible rfl)
  try simp only [Act.put, List.setIfInBounds_toArray, List.set_cons_zero, List.set_cons_succ]
  refine wpT_take (i := 5) (v := ?va5) rfl (by kernel_rfl) (fun _ _ _ h => h) rfl ?ya5 ?ra5
  case ya5 => ((intro wz; go_simp); try with_reducible rfl)
  try simp only [Act.put, List.setIfInBounds_toArray, List.set_cons_zero, List.set_cons_succ]
  refine wpT_load (i := 6) (v := ?va6) rfl (by kernel_rfl) (fun _ _ _ h => h) rfl ?ya6 HS ?ra6
  case ya6 => ((intro wz hSw; (try dsimp only at hSw); go_split_ands; go_simp); try with_reducible rfl)
  try simp only [Act.put, List.setIfInBounds_toArray, List.set_cons_zero, List.set_cons_succ]
  refine wpT_take (i := 7) (v := ?va7) rfl (by kernel_rfl) (fun _ _ _ h => h) rfl ?ya7 ?ra7
  case ya7 => ((intro wz; go_simp); try with_reducible rfl)
  try simp only [Act.put, List.setIfInBounds_toArray, List.set_cons_zero, List.set_cons_succ]
  refine wpT_load (i := 8) (v := ?va8) rfl (by kernel_rfl) (fun _ _ _ h => h) rfl ?ya8 HS ?ra8
  case ya8 => ((intro wz hSw; (try dsimp only at hSw); go_split_ands; go_simp); try with_reducible rfl)
  try simp only [Act.put, List.setIfInBounds_toArray, List.set_cons_zero, List.set_cons_succ]
  refine wpT_take (i := 9) (v := ?va9) rfl (by kernel_rfl) (fun _ _ _ h => h) rfl ?ya9 ?ra9
  case ya9 => ((intro wz; go_simp); try with_reducible rfl)
  try simp only [Act.put, List.setIfInBounds_toArray, List.set_cons_zero, List.set_cons_succ]
  refine wpT_load (i := 10) (v := ?va10) rfl (by kernel_rfl) (fun _ _ _ h => h) rfl ?ya10 HS ?ra10
  case ya10 => ((intro wz hSw; (try dsimp only at hSw); go_split_ands; go_simp); try with_reducible rfl)
  try simp only [Act.put, List.setIfInBounds_toArray, List.set_cons_zero, List.set_cons_succ]
  refine wpT_take (i := 11) (v := ?va11) rfl (by kernel_rfl) (fun _ _ _ h => h) rfl ?ya11 ?ra11
  case ya11 => ((intro wz; go_simp); try with_reducible rfl)
  try simp only [Act.put, List.setIfInBounds_toArray, List.set_cons_zero, List.set_cons_succ]
  refine wpT_take (i := 12) (v := ?va12) rfl (by kernel_rfl) (fun _ _ _ h => h) rfl ?ya12 ?ra12
  case ya12 => ((intro wz; go_simp); try with_reducible rfl)
  try simp only [Act.put, List.setIfInBounds_toArray, List.set_cons_zero, List.set_cons_succ]
  refine wpT_run (i := 13) (by kernel_rfl) rfl rfl ?_
  go_simp
  refine (put_c (l := l) (k := (m.seq l).length) (e := m.cnt) F1.out.drew.sp.st hll (by show (m.seq l).length ≤ (m.seq l).length; omega) hlen (by show (m.seq l).length ≤ _; omega)).mono ?_
  rintro r w2 ⟨rfl, S2⟩
  have F2 := Lib.hid (F1.out.drew.next S2)
  clear S2
  refine ⟨trivial, wpT_done (by kernel_rfl) ?_ _⟩
  go_wp2_with fail
  refine (answer_some (i := i) (e := m.cnt) F2.out.sp.st hi (Nat.lt_succ_self m.cnt) hlen (by show m.cnt + 1 ≤ _; omega)).mono ?_
  rintro r w3 ⟨rfl, S3⟩
  have F3 := Lib.hid (F2.out.next S3)
  clear S3
  obtain ⟨f5, d0, d1, d2, d3, d4⟩ := F3.out.acells
  generalize hq : Md.num _ _ _ = q
  have HQ := Lib.hid hq
  clear hq
  unfold An.agg'
  go_wp2
  refine bodyPost_ret (v := q.agg') ?_ rfl ⟨?_, F3.out.fin q⟩
  · simp [results, Try.results53, go_sem, An.agg', f5, d0, d1, d2, d3, d4]
  · rw [← HQ.out]; try rfl

set_option maxHeartbeats 1000000 in
theorem ch_5 {w : World} {B g : Nat} {F : Nat → Prop} {m : Md} (h : ST w B g F m) (hw : WF m) {i : Nat} (hi : i < m.len) (hlen : m.len ≤ 4611686018427387904) (hcnt : m.cnt ≤ 500) (hsz : ∀ l, (m.seq l).length ≤ 500) {other elem : Int} {v : Vl} {l : Nat} (hl : m.isL l = true) {p k : Nat} (hp : p < m.len) (hrk : m.ret p = some k) :
    Calls Try.prog 53 #[.pointer (some ⟨g, 0, none⟩), .int .i64 i, Cl.agg' ⟨5, l, other, elem, p, v⟩] w fun r w' => r = .returned (m.change i ⟨5, l, other, elem, p, v⟩).2.agg' ∧ SP w w' B g F (m.change i ⟨5, l, other, elem, p, v⟩).1 := by
  have F0 := FrA.start h ⟨5, l, other, elem, p, v⟩
  have FA := Lib.hid F0; have HW := Lib.hid hw
  have hs1 := hsz l
  have IN := Lib.hid (insert_c (op := 5) (other := other) (elem := elem) (v := v) F0.sp.st hw (b := 0) (by decide) hi hl hp hrk hlen (by omega) (by omega))
  clear h hw F0
  unfold Cl.agg'
  unfold Cl.agg' at IN
  simp only [Cl.arr, sAnsBlock] at IN
  have e1 : m.change i ⟨5, l, other, elem, p, v⟩ = m.insert i ⟨5, l, other, elem, p, v⟩ 0 := rfl
  rw [e1]
  clear e1
  go_enter Try.func53, Try.ntmps53
  go_wp2_with fail
  refine IN.out.mono ?_
  rintro r w3 ⟨rfl, S3⟩
  have F3 := Lib.hid (FA.out.next S3)
  clear S3
  obtain ⟨f5, d0, d1, d2, d3, d4⟩ := F3.out.acells
  generalize hq : (Md.insert _ _ _ _).2 = q
  have HQ := Lib.hid hq
  clear hq
  unfold An.agg'
  go_wp2
  refine bodyPost_ret (v := q.agg') ?_ rfl ⟨?_, F3.out.fin q⟩
  · simp [results, Try.results53, go_sem, An.agg', f5, d0, d1, d2, d3, d4]
  · rw [← HQ.out]; try rfl

set_option maxHeartbeats 1000000 in
theorem ch_6 {w : World} {B g : Nat} {F : Nat → Prop} {m : Md} (h : ST w B g F m) (hw : WF m) {i : Nat} (hi : i < m.len) (hlen : m.len ≤ 4611686018427387904) (hcnt : m.cnt ≤ 500) (hsz : ∀ l, (m.seq l).length ≤ 500) {other elem : Int} {v : Vl} {l : Nat} (hl : m.isL l = true) {p k : Nat} (hp : p < m.len) (hrk : m.ret p = some k) :
    Calls Try.prog 53 #[.pointer (some ⟨g, 0, none⟩), .int .i64 i, Cl.agg' ⟨6, l, other, elem, p, v⟩] w fun r w' => r = .returned (m.change i ⟨6, l, other, elem, p, v⟩).2.agg' ∧ SP w w' B g F (m.change i ⟨6, l, other, elem, p, v⟩).1 := by
  have F0 := FrA.start h ⟨6, l, other, elem, p, v⟩
  have FA := Lib.hid F0; have HW := Lib.hid hw
  have hs1 := hsz l
  have IN := Lib.hid (insert_c (op := 6) (other := other) (elem := elem) (v := v) F0.sp.st hw (b := 1) (by decide) hi hl hp hrk hlen (by omega) (by omega))
  clear h hw F0
  unfold Cl.agg'
  unfold Cl.agg' at IN
  simp only [Cl.arr, sAnsBlock] at IN
  have e1 : m.change i ⟨6, l, other, elem, p, v⟩ = m.insert i ⟨6, l, other, elem, p, v⟩ 1 := rfl
  rw [e1]
  clear e1
  go_enter Try.func53, Try.ntmps53
  go_wp2_with fail
  refine IN.out.mono ?_
  rintro r w3 ⟨rfl, S3⟩
  have F3 := Lib.hid (FA.out.next S3)
  clear S3
  obtain ⟨f5, d0, d1, d2, d3, d4⟩ := F3.out.acells
  generalize hq : (Md.insert _ _ _ _).2 = q
  have HQ := Lib.hid hq
  clear hq
  unfold An.agg'
  go_wp2
  refine bodyPost_ret (v := q.agg') ?_ rfl ⟨?_, F3.out.fin q⟩
  · simp [results, Try.results53, go_sem, An.agg', f5, d0, d1, d2, d3, d4]
  · rw [← HQ.out]; try rfl

set_option maxHeartbeats 1000000 in
theorem ch_7 {w : World} {B g : Nat} {F : Nat → Prop} {m : Md} (h : ST w B g F m) (hw : WF m) {i : Nat} (hi : i < m.len) (hlen : m.len ≤ 4611686018427387904) (hcnt : m.cnt ≤ 500) (hsz : ∀ l, (m.seq l).length ≤ 500) {other mark : Int} {v : Vl} {l : Nat} (hl : m.isL l = true) {n e : Nat} (hn : n < m.len) (hr : m.ret n = some e) :
    Calls Try.prog 53 #[.pointer (some ⟨g, 0, none⟩), .int .i64 i, Cl.agg' ⟨7, l, other, n, mark, v⟩] w fun r w' => r = .returned (m.change i ⟨7, l, other, n, mark, v⟩).2.agg' ∧ SP w w' B g F (m.change i ⟨7, l, other, n, mark, v⟩).1 := by
  have F0 := FrA.start h ⟨7, l, other, n, mark, v⟩
  have FA := Lib.hid F0; have HW := Lib.hid hw
  have hs1 := hsz l
  have MV : Calls Try.prog 99 #[.pointer (some ⟨g, 0, none⟩), Cl.agg' ⟨7, l, other, n, mark, v⟩] ((w.alloc (.cells (Cl.arr ⟨7, l, other, n, mark, v⟩) 79)).alloc sAnsBlock) fun r w' => r = .returned (.tuple #[]) ∧ SP ((w.alloc (.cells (Cl.arr ⟨7, l, other, n, mark, v⟩) 79)).alloc sAnsBlock) w' B g (tight w ((w.alloc (.cells (Cl.arr ⟨7, l, other, n, mark, v⟩) 79)).alloc sAnsBlock) B F) (m.move ⟨7, l, other, n, mark, v⟩) := by
    by_cases hm : e ∈ m.seq l
    · exact move_7 F0.sp.st hw hl hn hr hlen (by omega) hm
    · exact move_no F0.sp.st hw hl hn hr hlen (by omega) hm
  have MV := Lib.hid MV
  clear h hw F0
  unfold Cl.agg'
  unfold Cl.agg' at MV
  simp only [Cl.arr, sAnsBlock] at MV
  have e1 : m.change i ⟨7, l, other, n, mark, v⟩ = (m.move ⟨7, l, other, n, mark, v⟩, An.no) := rfl
  rw [e1]
  clear e1
  go_enter Try.func53, Try.ntmps53
  go_wp2_with fail
  refine MV.out.mono ?_
  rintro r w3 ⟨rfl, S3⟩
  have F3 := Lib.hid (FA.out.next S3)
  clear S3
  obtain ⟨f5, d0, d1, d2, d3, d4⟩ := F3.out.acells
  go_wp2
  refine bodyPost_ret (v := An.no.agg') ?_ rfl ⟨rfl, F3.out.fin An.no⟩
  simp [results, Try.results53, go_sem, An.agg', An.no, Vl.zero, f5, d0, d1, d2, d3, d4]
  rfl

set_option maxHeartbeats 1000000 in
theorem ch_8 {w : World} {B g : Nat} {F : Nat → Prop} {m : Md} (h : ST w B g F m) (hw : WF m) {i : Nat} (hi : i < m.len) (hlen : m.len ≤ 4611686018427387904) (hcnt : m.cnt ≤ 500) (hsz : ∀ l, (m.seq l).length ≤ 500) {other mark : Int} {v : Vl} {l : Nat} (hl : m.isL l = true) {n e : Nat} (hn : n < m.len) (hr : m.ret n = some e) :
    Calls Try.prog 53 #[.pointer (some ⟨g, 0, none⟩), .int .i64 i, Cl.agg' ⟨8, l, other, n, mark, v⟩] w fun r w' => r = .returned (m.change i ⟨8, l, other, n, mark, v⟩).2.agg' ∧ SP w w' B g F (m.change i ⟨8, l, other, n, mark, v⟩).1 := by
  have F0 := FrA.start h ⟨8, l, other, n, mark, v⟩
  have FA := Lib.hid F0; have HW := Lib.hid hw
  have hs1 := hsz l
  have MV : Calls Try.prog 99 #[.pointer (some ⟨g, 0, none⟩), Cl.agg' ⟨8, l, other, n, mark, v⟩] ((w.alloc (.cells (Cl.arr ⟨8, l, other, n, mark, v⟩) 79)).alloc sAnsBlock) fun r w' => r = .returned (.tuple #[]) ∧ SP ((w.alloc (.cells (Cl.arr ⟨8, l, other, n, mark, v⟩) 79)).alloc sAnsBlock) w' B g (tight w ((w.alloc (.cells (Cl.arr ⟨8, l, other, n, mark, v⟩) 79)).alloc sAnsBlock) B F) (m.move ⟨8, l, other, n, mark, v⟩) := by
    by_cases hm : e ∈ m.seq l
    · exact move_8 F0.sp.st hw hl hn hr hlen (by omega) hm
    · exact move_no F0.sp.st hw hl hn hr hlen (by omega) hm
  have MV := Lib.hid MV
  clear h hw F0
  unfold Cl.agg'
  unfold Cl.agg' at MV
  simp only [Cl.arr, sAnsBlock] at MV
  have e1 : m.change i ⟨8, l, other, n, mark, v⟩ = (m.move ⟨8, l, other, n, mark, v⟩, An.no) := rfl
  rw [e1]
  clear e1
  go_enter Try.func53, Try.ntmps53
  go_wp2_with fail
  refine MV.out.mono ?_
  rintro r w3 ⟨rfl, S3⟩
  have F3 := Lib.hid (FA.out.next S3)
  clear S3
  obtain ⟨f5, d0, d1, d2, d3, d4⟩ := F3.out.acells
  go_wp2
  refine bodyPost_ret (v := An.no.agg') ?_ rfl ⟨rfl, F3.out.fin An.no⟩
  simp [results, Try.results53, go_sem, An.agg', An.no, Vl.zero, f5, d0, d1, d2, d3, d4]
  rfl

set_option maxHeartbeats 1000000 in
theorem ch_9 {w : World} {B g : Nat} {F : Nat → Prop} {m : Md} (h : ST w B g F m) (hw : WF m) {i : Nat} (hi : i < m.len) (hlen : m.len ≤ 4611686018427387904) (hcnt : m.cnt ≤ 500) (hsz : ∀ l, (m.seq l).length ≤ 500) {other : Int} {v : Vl} {l : Nat} (hl : m.isL l = true) {n e : Nat} (hn : n < m.len) (hr : m.ret n = some e) {p k : Nat} (hp : p < m.len) (hrk : m.ret p = some k) :
    Calls Try.prog 53 #[.pointer (some ⟨g, 0, none⟩), .int .i64 i, Cl.agg' ⟨9, l, other, n, p, v⟩] w fun r w' => r = .returned (m.change i ⟨9, l, other, n, p, v⟩).2.agg' ∧ SP w w' B g F (m.change i ⟨9, l, other, n, p, v⟩).1 := by
  have F0 := FrA.start h ⟨9, l, other, n, p, v⟩
  have FA := Lib.hid F0; have HW := Lib.hid hw
  have hs1 := hsz l
  have MV : Calls Try.prog 99 #[.pointer (some ⟨g, 0, none⟩), Cl.agg' ⟨9, l, other, n, p, v⟩] ((w.alloc (.cells (Cl.arr ⟨9, l, other, n, p, v⟩) 79)).alloc sAnsBlock) fun r w' => r = .returned (.tuple #[]) ∧ SP ((w.alloc (.cells (Cl.arr ⟨9, l, other, n, p, v⟩) 79)).alloc sAnsBlock) w' B g (tight w ((w.alloc (.cells (Cl.arr ⟨9, l, other, n, p, v⟩) 79)).alloc sAnsBlock) B F) (m.move ⟨9, l, other, n, p, v⟩) := by
    by_cases hm : e ∈ m.seq l
    · exact move_9 F0.sp.st hw hl hn hr hp hrk hlen (by omega) hm
    · exact move_no F0.sp.st hw hl hn hr hlen (by omega) hm
  have MV := Lib.hid MV
  clear h hw F0
  unfold Cl.agg'
  unfold Cl.agg' at MV
  simp only [Cl.arr, sAnsBlock] at MV
  have e1 : m.change i ⟨9, l, other, n, p, v⟩ = (m.move ⟨9, l, other, n, p, v⟩, An.no) := rfl
  rw [e1]
  clear e1
  go_enter Try.func53, Try.ntmps53
  go_wp2_with fail
  refine MV.out.mono ?_
  rintro r w3 ⟨rfl, S3⟩
  have F3 := Lib.hid (FA.out.next S3)
  clear S3
  obtain ⟨f5, d0, d1, d2, d3, d4⟩ := F3.out.acells
  go_wp2
  refine bodyPost_ret (v := An.no.agg') ?_ rfl ⟨rfl, F3.out.fin An.no⟩
  simp [results, Try.results53, go_sem, An.agg', An.no, Vl.zero, f5, d0, d1, d2, d3, d4]
  rfl

set_option maxHeartbeats 1000000 in
theorem ch_10 {w : World} {B g : Nat} {F : Nat → Prop} {m : Md} (h : ST w B g F m) (hw : WF m) {i : Nat} (hi : i < m.len) (hlen : m.len ≤ 4611686018427387904) (hcnt : m.cnt ≤ 500) (hsz : ∀ l, (m.seq l).length ≤ 500) {other : Int} {v : Vl} {l : Nat} (hl : m.isL l = true) {n e : Nat} (hn : n < m.len) (hr : m.ret n = some e) {p k : Nat} (hp : p < m.len) (hrk : m.ret p = some k) :
    Calls Try.prog 53 #[.pointer (some ⟨g, 0, none⟩), .int .i64 i, Cl.agg' ⟨10, l, other, n, p, v⟩] w fun r w' => r = .returned (m.change i ⟨10, l, other, n, p, v⟩).2.agg' ∧ SP w w' B g F (m.change i ⟨10, l, other, n, p, v⟩).1 := by
  have F0 := FrA.start h ⟨10, l, other, n, p, v⟩
  have FA := Lib.hid F0; have HW := Lib.hid hw
  have hs1 := hsz l
  have MV : Calls Try.prog 99 #[.pointer (some ⟨g, 0, none⟩), Cl.agg' ⟨10, l, other, n, p, v⟩] ((w.alloc (.cells (Cl.arr ⟨10, l, other, n, p, v⟩) 79)).alloc sAnsBlock) fun r w' => r = .returned (.tuple #[]) ∧ SP ((w.alloc (.cells (Cl.arr ⟨10, l, other, n, p, v⟩) 79)).alloc sAnsBlock) w' B g (tight w ((w.alloc (.cells (Cl.arr ⟨10, l, other, n, p, v⟩) 79)).alloc sAnsBlock) B F) (m.move ⟨10, l, other, n, p, v⟩) := by
    by_cases hm : e ∈ m.seq l
    · exact move_10 F0.sp.st hw hl hn hr hp hrk hlen (by omega) hm
    · exact move_no F0.sp.st hw hl hn hr hlen (by omega) hm
  have MV := Lib.hid MV
  clear h hw F0
  unfold Cl.agg'
  unfold Cl.agg' at MV
  simp only [Cl.arr, sAnsBlock] at MV
  have e1 : m.change i ⟨10, l, other, n, p, v⟩ = (m.move ⟨10, l, other, n, p, v⟩, An.no) := rfl
  rw [e1]
  clear e1
  go_enter Try.func53, Try.ntmps53
  go_wp2_with fail
  refine MV.out.mono ?_
  rintro r w3 ⟨rfl, S3⟩
  have F3 := Lib.hid (FA.out.next S3)
  clear S3
  obtain ⟨f5, d0, d1, d2, d3, d4⟩ := F3.out.acells
  go_wp2
  refine bodyPost_ret (v := An.no.agg') ?_ rfl ⟨rfl, F3.out.fin An.no⟩
  simp [results, Try.results53, go_sem, An.agg', An.no, Vl.zero, f5, d0, d1, d2, d3, d4]
  rfl

set_option maxHeartbeats 1000000 in
theorem ch_12 {w : World} {B g : Nat} {F : Nat → Prop} {m : Md} (h : ST w B g F m) (hw : WF m) {i : Nat} (hi : i < m.len) (hlen : m.len ≤ 4611686018427387904) (hcnt : m.cnt ≤ 500) (hsz : ∀ l, (m.seq l).length ≤ 500) {elem mark : Int} {v : Vl} {l : Nat} (hl : m.isL l = true) {o : Nat} (ho : m.isL o = true) (hmk : m.cnt + (m.seq o).length ≤ 500) :
    Calls Try.prog 53 #[.pointer (some ⟨g, 0, none⟩), .int .i64 i, Cl.agg' ⟨12, l, o, elem, mark, v⟩] w fun r w' => r = .returned (m.change i ⟨12, l, o, elem, mark, v⟩).2.agg' ∧ SP w w' B g F (m.change i ⟨12, l, o, elem, mark, v⟩).1 := by
  have F0 := FrA.start h ⟨12, l, o, elem, mark, v⟩
  have FA := Lib.hid F0; have HW := Lib.hid hw
  have hs1 := hsz l
  have MV := Lib.hid (copies_12 (elem := elem) (mark := mark) (v := v) F0.sp.st hw hl ho hlen hmk (by omega))
  clear h hw F0
  unfold Cl.agg'
  unfold Cl.agg' at MV
  simp only [Cl.arr, sAnsBlock] at MV
  have e1 : m.change i ⟨12, l, o, elem, mark, v⟩ = (m.copies ⟨12, l, o, elem, mark, v⟩, An.no) := rfl
  rw [e1]
  clear e1
  go_enter Try.func53, Try.ntmps53
  go_wp2_with fail
  refine MV.out.mono ?_
  rintro r w3 ⟨rfl, S3⟩
  have F3 := Lib.hid (FA.out.next S3)
  clear S3
  obtain ⟨f5, d0, d1, d2, d3, d4⟩ := F3.out.acells
  go_wp2
  refine bodyPost_ret (v := An.no.agg') ?_ rfl ⟨rfl, F3.out.fin An.no⟩
  simp [results, Try.results53, go_sem, An.agg', An.no, Vl.zero, f5, d0, d1, d2, d3, d4]
  rfl

set_option maxHeartbeats 1000000 in
theorem ch_13 {w : World} {B g : Nat} {F : Nat → Prop} {m : Md} (h : ST w B g F m) (hw : WF m) {i : Nat} (hi : i < m.len) (hlen : m.len ≤ 4611686018427387904) (hcnt : m.cnt ≤ 500) (hsz : ∀ l, (m.seq l).length ≤ 500) {elem mark : Int} {v : Vl} {l : Nat} (hl : m.isL l = true) {o : Nat} (ho : m.isL o = true) (hmk : m.cnt + (m.seq o).length ≤ 500) :
    Calls Try.prog 53 #[.pointer (some ⟨g, 0, none⟩), .int .i64 i, Cl.agg' ⟨13, l, o, elem, mark, v⟩] w fun r w' => r = .returned (m.change i ⟨13, l, o, elem, mark, v⟩).2.agg' ∧ SP w w' B g F (m.change i ⟨13, l, o, elem, mark, v⟩).1 := by
  have F0 := FrA.start h ⟨13, l, o, elem, mark, v⟩
  have FA := Lib.hid F0; have HW := Lib.hid hw
  have hs1 := hsz l
  have MV := Lib.hid (copies_13 (elem := elem) (mark := mark) (v := v) F0.sp.st hw hl ho hlen hmk (by omega))
  clear h hw F0
  unfold Cl.agg'
  unfold Cl.agg' at MV
  simp only [Cl.arr, sAnsBlock] at MV
  have e1 : m.change i ⟨13, l, o, elem, mark, v⟩ = (m.copies ⟨13, l, o, elem, mark, v⟩, An.no) := rfl
  rw [e1]
  clear e1
  go_enter Try.func53, Try.ntmps53
  go_wp2_with fail
  refine MV.out.mono ?_
  rintro r w3 ⟨rfl, S3⟩
  have F3 := Lib.hid (FA.out.next S3)
  clear S3
  obtain ⟨f5, d0, d1, d2, d3, d4⟩ := F3.out.acells
  go_wp2
  refine bodyPost_ret (v := An.no.agg') ?_ rfl ⟨rfl, F3.out.fin An.no⟩
  simp [results, Try.results53, go_sem, An.agg', An.no, Vl.zero, f5, d0, d1, d2, d3, d4]
  rfl

theorem SR.free3 {w : World} {B g : Nat} {m : Md} {v0 v1 v2 : Value} {b3 cap : Nat} {ls : Nat → Value} (h : SR w B g m v0 v1 v2 (.slice (some ⟨b3, 0, none⟩) m.cnt cap) ls) (j : Nat) : w.frozen? ⟨b3, j, none⟩ = false := h.r3.frozenAt j

set_option maxHeartbeats 1000000 in
theorem ch_11 {w : World} {B g : Nat} {F : Nat → Prop} {m : Md} (h : ST w B g F m) (hw : WF m) {i : Nat} (hi : i < m.len) (hlen : m.len ≤ 4611686018427387904) (hcnt : m.cnt ≤ 500) (hsz : ∀ l, (m.seq l).length ≤ 500) {other mark : Int} {v : Vl} {l : Nat} (hl : m.isL l = true) {n e : Nat} (hn : n < m.len) (hr : m.ret n = some e) :
    Calls Try.prog 53 #[.pointer (some ⟨g, 0, none⟩), .int .i64 i, Cl.agg' ⟨11, l, other, n, mark, v⟩] w fun r w' => r = .returned (m.change i ⟨11, l, other, n, mark, v⟩).2.agg' ∧ SP w w' B g F (m.change i ⟨11, l, other, n, mark, v⟩).1 := by
  have F0 := FrA.start h ⟨11, l, other, n, mark, v⟩
  have FA := Lib.hid F0; have HW := Lib.hid hw
  have hll := hw.isl l hl
  have hs1 := hsz l
  have he := (hw.rlt n e hr).2
  obtain ⟨v0, v1, v2, v3, ls, hs⟩ := F0.sp.sr
  have c2 := hs.c2
  have c3 := hs.c3
  obtain ⟨b2, cap2, rfl, g2, _⟩ := hs.at2 hn
  obtain ⟨b3, cap3, rfl, _, _⟩ := hs.at3 he
  have e0 := hs.el (j := 0) he rfl; have e1 := hs.el (j := 1) he rfl; have e2 := hs.el (j := 2) he rfl
  rw [hr, optI_some] at g2
  have AT := fun n => Lib.hid (at_c (hs.drewN n) hll e hlen (by omega) (hw.nodup l))
  have heI : ((e : Nat) : Int) < (m.cnt : Nat) := by omega
  simp only [Cl.arr, sAnsBlock, Nat.add_zero] at c2 c3 g2 AT e0 e1 e2
  unfold Cl.agg'
  by_cases hm : e ∈ m.seq l
  · simp only [idx_mem hm] at AT
    have e9 : m.change i ⟨11, l, other, n, mark, v⟩ = (m.drop l e, ⟨-1, 0, m.val e⟩) := by
      show m.remove ⟨11, l, other, n, mark, v⟩ = _
      simp [Md.remove, hr, hm]
    rw [e9]
    have dk : decide ((0 : Int) ≤ ((List.idxOf e (m.seq l) : Nat) : Int)) = true := by simp
    clear h hw hs F0 e9 hr hm c3 e0 e1 e2
    go_enter Try.func53, Try.ntmps53
    go_wp2
    go_quiet (fail)
    go_wp2_with fail
    refine (AT _).out.mono ?_
    rintro r w1 ⟨rfl, rfl⟩
    go_wp2_with fail
    refine (take_c (l := l) (e := e) (FA.out.drewN _).sp.st hll hlen (by omega)).mono ?_
    rintro r w1 ⟨rfl, S1⟩
    have F1 := Lib.hid ((FA.out.drewN _).next S1)
    clear S1
    obtain ⟨x0, x1, x2, x3, xs, hq1, hf, hF⟩ := F1.out.sp.st
    have he2 : e < (m.take l e).cnt := he
    obtain ⟨b3', cap3', rfl, _, _⟩ := hq1.at3 he2
    have c3 : w1.cell? ⟨g, 3, none⟩ = some (.slice (some ⟨b3', 0, none⟩) m.cnt cap3') := hq1.c3
    have o3 := hq1.el (j := 3) he2 rfl
    have z3 := hq1.elz (e * 6 + 3)
    have hq2 := hq1.set3 (m' := m.drop l e) he2 (j := 3) (by decide) (.int .i64 (-1)) ⟨rfl, rfl, rfl, rfl, rfl⟩ (by simp [ecells, Md.drop, Md.take, Md.setSeq, upd_same, optI]) (fun k hk => by simp only [ecells, Md.drop]; rw [upd_other _ _ hk]; rfl)
    have c3' : (w1.setCell ⟨b3', e * 6 + 3, none⟩ (.int .i64 (-1))).cell? ⟨g, 3, none⟩ = some (.slice (some ⟨b3', 0, none⟩) m.cnt cap3') := hq2.c3
    have e0 := hq2.el (j := 0) he rfl; have e1 := hq2.el (j := 1) he rfl; have e2 := hq2.el (j := 2) he rfl
    have F2 := Lib.hid (F1.out.next (SP.stored hf hF hq2 ((Keeps.refl _ _).setCell (p := ⟨b3', e * 6 + 3, none⟩) (fun _ => hf b3' (.inr (.inr (.inr (.inr rfl))))) _)))
    simp only [Nat.add_zero, show (m.drop l e).val e = m.val e from rfl] at e0 e1 e2
    obtain ⟨f5, d0, d1, d2, d3, d4⟩ := F2.out.acells
    clear hq1 hq2 hf hF
    go_wp2
    refine bodyPost_ret (v := An.agg' ⟨-1, 0, m.val e⟩) ?_ rfl ⟨rfl, F2.out.fin ⟨-1, 0, m.val e⟩⟩
    simp [results, Try.results53, go_sem, An.agg', f5, d0, d1, d2, d3, d4]
  · simp only [idx_not hm] at AT
    have e9 : m.change i ⟨11, l, other, n, mark, v⟩ = (m, ⟨-1, 0, m.val e⟩) := by
      show m.remove ⟨11, l, other, n, mark, v⟩ = _
      simp [Md.remove, hr, hm]
    rw [e9]
    have AC := fun n => (FA.out.drewN n).acells
    simp only [Cl.arr, sAnsBlock] at AC
    clear h hw hs F0 e9 hr hm
    go_enter Try.func53, Try.ntmps53
    go_wp2
    go_quiet (fail)
    go_wp2_with fail
    refine (AT _).out.mono ?_
    rintro r w1 ⟨rfl, rfl⟩
    go_wp2
    refine bodyPost_ret (v := An.agg' ⟨-1, 0, m.val e⟩) ?_ rfl ⟨rfl, (FA.out.drewN _).fin ⟨-1, 0, m.val e⟩⟩
    simp [results, Try.results53, go_sem, An.agg', AC]

/-- What Init has done after j elements. -/
def Md.clearTo (m : Md) (l j : Nat) : Md := { m with inn := fun e => if e ∈ (m.seq l).take j then none else m.inn e, clr := fun e => if e ∈ (m.seq l).take j then some l else m.clr e }
theorem clearTo_zero (m : Md) (l : Nat) : m.clearTo l 0 = m := by simp [Md.clearTo]
theorem clearTo_all (m : Md) (l : Nat) : (m.clearTo l (m.seq l).length).setSeq l [] = m.clear l := by simp [Md.clearTo, Md.clear, Md.setSeq]
theorem take_mem_succ {s : List Nat} {j : Nat} (hj : j < s.length) (e : Nat) : e ∈ s.take (j + 1) ↔ e ∈ s.take j ∨ e = s[j] := by
  rw [List.take_succ_eq_append_getElem hj, List.mem_append, List.mem_singleton]
structure ClearAt (w wr : World) (B g : Nat) (F : Nat → Prop) (m : Md) (c : Cl) (v0 v1 v2 v3 : Value) (ls : Nat → Value) (l j : Nat) : Prop where
  sr : SR wr B g (m.clearTo l j) v0 v1 v2 v3 ls
  box : wr.heap[w.heap.size]? = some (.cells c.arr 79 (0, 0))
  ans : wr.heap[w.heap.size + 1]? = some sAnsBlock
  keeps : Keeps F w wr
theorem ClearAt.next {w wr : World} {B g : Nat} {F : Nat → Prop} {m : Md} {c : Cl} {v0 v1 v2 : Value} {b3 cap : Nat} {ls : Nat → Value} {l j : Nat} (hf : ∀ k, Foot g v0 v1 v2 (.slice (some ⟨b3, 0, none⟩) m.cnt cap) k → F k)
    (hj : j < (m.seq l).length) (hlt : (m.seq l)[j] < m.cnt) (h : ClearAt w wr B g F m c v0 v1 v2 (.slice (some ⟨b3, 0, none⟩) m.cnt cap) ls l j) :
    ClearAt w ((wr.setCell ⟨b3, (m.seq l)[j] * 6 + 3, none⟩ (.int .i64 (-1))).setCell ⟨b3, (m.seq l)[j] * 6 + 4, none⟩ (.int .i64 (l : Nat))) B g F m c v0 v1 v2 (.slice (some ⟨b3, 0, none⟩) m.cnt cap) ls l (j + 1) := by
  have mem := take_mem_succ hj
  have s1 := SR.set3 (m' := { m.clearTo l j with inn := upd (m.clearTo l j).inn (m.seq l)[j] none }) h.sr (e := (m.seq l)[j]) hlt (j := 3) (by decide) (.int .i64 (-1)) ⟨rfl, rfl, rfl, rfl, rfl⟩ (by simp [ecells, upd_same, optI]) (fun k hk => by simp only [ecells]; rw [upd_other _ _ hk])
  have s2 := SR.set3 (m' := m.clearTo l (j + 1)) s1 (e := (m.seq l)[j]) hlt (j := 4) (by decide) (.int .i64 (l : Nat)) ⟨rfl, rfl, rfl, rfl, rfl⟩ (by simp [ecells, Md.clearTo, upd_same, optI, mem]) (fun k hk => by simp [ecells, Md.clearTo, upd_other _ _ hk, mem, hk])
  have k3 : ∀ {k : Nat} {d : Array Value} {t : TypeId}, wr.heap[k]? = some (Obj.cells d t (0, 0)) → ¬ ownKind t → ((wr.setCell ⟨b3, (m.seq l)[j] * 6 + 3, none⟩ (.int .i64 (-1))).setCell ⟨b3, (m.seq l)[j] * 6 + 4, none⟩ (.int .i64 (l : Nat))).heap[k]? = some (Obj.cells d t (0, 0)) := by
    intro k d t hk ht
    have hne : ¬ k = b3 := fun q => by subst q; exact ht (h.sr.typed (.inr (.inr (.inr (.inr rfl)))) hk)
    rw [heap_set_other (a := ⟨b3, _, none⟩) hne, heap_set_other (a := ⟨b3, _, none⟩) hne]; exact hk
  refine ⟨s2, k3 h.box (by unfold ownKind; decide), k3 h.ans (by unfold ownKind; decide), ?_⟩
  exact (h.keeps.setCell (p := ⟨b3, _, none⟩) (fun _ => hf b3 (.inr (.inr (.inr (.inr rfl))))) _).setCell (p := ⟨b3, _, none⟩) (fun _ => hf b3 (.inr (.inr (.inr (.inr rfl))))) _
theorem ClearAt.drew {w wr : World} {B g : Nat} {F : Nat → Prop} {m : Md} {c : Cl} {v0 v1 v2 v3 : Value} {ls : Nat → Value} {l j : Nat} (h : ClearAt w wr B g F m c v0 v1 v2 v3 ls l j) : ClearAt w wr.drew B g F m c v0 v1 v2 v3 ls l j := ⟨h.sr.drew, h.box, h.ans, h.keeps.drew⟩
theorem ClearAt.cell {w wr : World} {B g : Nat} {F : Nat → Prop} {m : Md} {c : Cl} {v0 v1 v2 v3 : Value} {ls : Nat → Value} {l j : Nat} (h : ClearAt w wr B g F m c v0 v1 v2 v3 ls l j) {t : Nat} {v : Value} (hv : c.cells[t]? = some v) : wr.cell? ⟨w.heap.size, t, none⟩ = some v := cell_of_heap h.box (by rw [← Array.getElem?_toList]; exact hv)
theorem ClearAt.fin {w wr : World} {B g : Nat} {F : Nat → Prop} {m : Md} {c : Cl} {v0 v2 v3 : Value} {b1 cap : Nat} {ls : Nat → Value} {l : Nat} (hf : ∀ k, Foot g v0 (.slice (some ⟨b1, 0, none⟩) m.len cap) v2 v3 k → F k) (hF : ∀ k, F k → B ≤ k ∧ k < w.heap.size) (hl : l < m.len)
    (h : ClearAt w wr B g F m c v0 (.slice (some ⟨b1, 0, none⟩) m.len cap) v2 v3 ls l (m.seq l).length) : FrA w (wr.setCell ⟨b1, l, none⟩ (.slice none 0 0)) B g F (m.clear l) c := by
  have s1 := SR.set1 (m' := (m.clearTo l (m.seq l).length).setSeq l []) h.sr (l := l) hl (IRow.nil wr) (fun b q => by simp [Value.ownBlock] at q) rfl
  rw [clearTo_all] at s1
  have k3 : ∀ {k : Nat} {d : Array Value} {t : TypeId}, wr.heap[k]? = some (Obj.cells d t (0, 0)) → ¬ ownKind t → (wr.setCell ⟨b1, l, none⟩ (.slice none 0 0)).heap[k]? = some (Obj.cells d t (0, 0)) := by
    intro k d t hk ht
    have hne : ¬ k = b1 := fun q => by subst q; exact ht (h.sr.typed (.inr (.inr (.inl rfl))) hk)
    rw [heap_set_other (a := ⟨b1, _, none⟩) hne]; exact hk
  exact ⟨⟨SP.stored hf hF s1 (h.keeps.setCell (p := ⟨b1, l, none⟩) (fun _ => hf b1 (.inr (.inr (.inl rfl)))) _), k3 h.box (by unfold ownKind; decide)⟩, k3 h.ans (by unfold ownKind; decide)⟩

set_option maxHeartbeats 1000000 in
theorem ch_14 {w : World} {B g : Nat} {F : Nat → Prop} {m : Md} (h : ST w B g F m) (hw : WF m) {i : Nat} (hi : i < m.len) (hlen : m.len ≤ 4611686018427387904) (hcnt : m.cnt ≤ 500) (hsz : ∀ l, (m.seq l).length ≤ 500) {other elem mark : Int} {v : Vl} {l : Nat} (hl : m.isL l = true) :
    Calls Try.prog 53 #[.pointer (some ⟨g, 0, none⟩), .int .i64 i, Cl.agg' ⟨14, l, other, elem, mark, v⟩] w fun r w' => r = .returned (m.change i ⟨14, l, other, elem, mark, v⟩).2.agg' ∧ SP w w' B g F (m.change i ⟨14, l, other, elem, mark, v⟩).1 := by
  have F0 := FrA.start h ⟨14, l, other, elem, mark, v⟩
  have FA := Lib.hid F0; have HW := Lib.hid hw
  have hll := hw.isl l hl
  have hs1 := hsz l
  obtain ⟨v0, v1, v2, v3, ls, hs, hf, hF⟩ := h
  have e9 : m.change i ⟨14, l, other, elem, mark, v⟩ = (m.clear l, An.no) := rfl
  rw [e9]
  have CST : ∀ n, Hid (ClearAt w (((w.alloc (.cells (Cl.arr ⟨14, l, other, elem, mark, v⟩) 79)).alloc sAnsBlock).drewN n) B g F m ⟨14, l, other, elem, mark, v⟩ v0 v1 v2 v3 ls l 0) := fun n =>
    ⟨by rw [clearTo_zero]; exact ((hs.alloc _).alloc _).drewN n, (F0.drewN n).box, (F0.drewN n).ans, (((Keeps.refl F w).alloc _).alloc _).drewN n⟩
  have c1 := fun n => (CST n).out.sr.c1
  obtain ⟨b1, cap1, rfl, _, _⟩ := hs.at1 hll
  have clq : ∀ n, (((w.alloc (.cells (Cl.arr ⟨14, l, other, elem, mark, v⟩) 79)).alloc sAnsBlock).drewN n).cell? ⟨b1, l, none⟩ = some (ls l) := fun n => by
    obtain ⟨b, cap, q, c, _⟩ := (CST n).out.sr.at1 (i := l) hll; simp at q; obtain ⟨rfl, _⟩ := q; exact c
  have cl := clq 0
  have c1 := c1 0
  obtain ⟨al, capl, hlo⟩ := (hs.ll l hll).form
  rw [hlo] at cl
  have HLO := Lib.hid hlo
  have HF := Lib.hid hf; have HF2 := Lib.hid hF; have H := Lib.hid hs
  have cl0 : ((w.alloc (.cells (Cl.arr ⟨14, l, other, elem, mark, v⟩) 79)).alloc sAnsBlock).cell? ⟨b1, l, none⟩ = some (.slice al (m.seq l).length capl) := cl
  have c10 : ((w.alloc (.cells (Cl.arr ⟨14, l, other, elem, mark, v⟩) 79)).alloc sAnsBlock).cell? ⟨g, 1, none⟩ = some (.slice (some ⟨b1, 0, none⟩) m.len cap1) := c1
  unfold Cl.agg'
  simp only [Cl.arr, sAnsBlock] at CST cl0 c10
  clear hs hf hF hw F0 e9 hlo clq cl c1
  go_enter Try.func53, Try.ntmps53
  go_wp2
  go_quiet (fail)
  go_wp2_with fail
  go_loopg [131] (m.seq l).length (fun n k wr => ∃ j : Nat, j + n = (m.seq l).length ∧ k = .int .i64 j ∧ ClearAt w wr B g F m ⟨14, l, other, elem, mark, v⟩ v0 (.slice (some ⟨b1, 0, none⟩) m.len cap1) v2 v3 ls l j)
  case atStart => exact ⟨0, by omega, rfl, (CST _).out⟩
  case round =>
    clear CST cl0 c10
    obtain ⟨j, hj, rfl, hC⟩ := hrel
    by_cases hk0 : gk = 0
    · subst hk0
      obtain rfl : j = (m.seq l).length := by omega
      have y1 := hC.cell (t := 1) rfl
      have c1 : wr.cell? ⟨g, 1, none⟩ = some (.slice (some ⟨b1, 0, none⟩) m.len cap1) := hC.sr.c1
      have fz : wr.frozen? ⟨b1, l, none⟩ = false := hC.sr.r1.frozenAt l
      obtain ⟨_, _, hb1, cl, _⟩ := hC.sr.at1 (i := l) hll
      simp only [Value.slice.injEq, Option.some.injEq, Addr.mk.injEq] at hb1
      obtain ⟨⟨rfl, hz1⟩, hz2⟩ := hb1
      clear hz1 hz2
      rw [HLO.out] at cl
      have FF := Lib.hid (hC.fin HF.out HF2.out hll)
      obtain ⟨f5, d0, d1, d2, d3, d4⟩ := FF.out.acells
      clear hC hj
      go_wp2_with fail
      refine wp_region_T (fun w' => w'.cell? ⟨g, 1, none⟩ = some (.slice (some ⟨b1, 0, none⟩) m.len cap1) ∧ w'.cell? ⟨w.heap.size, 1, none⟩ = some (.int .i64 (l : Nat))) [] [7] run_mixed ?_
      simp only [List.size_toArray, List.length_cons, List.length_nil]
      have HS : wr.drew.cell? ⟨g, 1, none⟩ = some (.slice (some ⟨b1, 0, none⟩) m.len cap1) ∧ wr.drew.cell? ⟨w.heap.size, 1, none⟩ = some (.int .i64 (l : Nat)) := ⟨c1, y1⟩
      refine wpT_take (i := 0) (v := ?va0) rfl (by kernel_rfl) (fun _ _ _ h => h) rfl ?ya0 ?ra0
      case ya0 => ((intro wz; go_simp); try with_reducible rfl)
      try simp only [Act.put, List.setIfInBounds_toArray, List.set_cons_zero, List.set_cons_succ]
      refine wpT_take (i := 1) (v := ?va1) rfl (by kernel_rfl) (fun _ _ _ h => h) rfl ?ya1 ?ra1
      case ya1 => ((intro wz; go_simp); try with_reducible rfl)
      try simp only [Act.put, List.setIfInBounds_toArray, List.set_cons_zero, List.set_cons_succ]
      refine wpT_take (i := 2) (v := ?va2) rfl (by kernel_rfl) (fun _ _ _ h => h) rfl ?ya2 ?ra2
      case ya2 => ((intro wz; go_simp); try with_reducible rfl)
      try simp only [Act.put, List.setIfInBounds_toArray, List.set_cons_zero, List.set_cons_succ]
      refine wpT_load (i := 3) (v := ?va3) rfl (by kernel_rfl) (fun _ _ _ h => h) rfl ?ya3 HS ?ra3
      case ya3 => ((intro wz hSw; (try dsimp only at hSw); go_split_ands; go_simp); try with_reducible rfl)
      try simp only [Act.put, List.setIfInBounds_toArray, List.set_cons_zero, List.set_cons_succ]
      refine wpT_take (i := 4) (v := ?va4) rfl (by kernel_rfl) (fun _ _ _ h => h) rfl ?ya4 ?ra4
      case ya4 => ((intro wz; go_simp); try with_reducible rfl)
      try simp only [Act.put, List.setIfInBounds_toArray, List.set_cons_zero, List.set_cons_succ]
      refine wpT_load (i := 5) (v := ?va5) rfl (by kernel_rfl) (fun _ _ _ h => h) rfl ?ya5 HS ?ra5
      case ya5 => ((intro wz hSw; (try dsimp only at hSw); go_split_ands; go_simp); try with_reducible rfl)
      try simp only [Act.put, List.setIfInBounds_toArray, List.set_cons_zero, List.set_cons_succ]
      refine wpT_take (i := 6) (v := ?va6) rfl (by kernel_rfl) (fun _ _ _ h => h) rfl ?ya6 ?ra6
      case ya6 => ((intro wz; go_simp); try with_reducible rfl)
      try simp only [Act.put, List.setIfInBounds_toArray, List.set_cons_zero, List.set_cons_succ]
      refine wpT_run (i := 7) (by kernel_rfl) rfl rfl ?_
      go_simp
      refine ⟨trivial, wpT_done (by kernel_rfl) ?_ _⟩
      go_wp2
      refine bodyPost_ret (v := An.no.agg') ?_ rfl ⟨rfl, (FF.out.fin An.no).drew⟩
      simp [results, Try.results53, go_sem, An.agg', An.no, Vl.zero, f5, d0, d1, d2, d3, d4]
      rfl
    · have hjl : j < (m.seq l).length := by omega
      have hxc := HW.out.lt (List.getElem_mem (l := m.seq l) hjl)
      have hne : m.seq l ≠ [] := by intro q; rw [q] at hjl; simp at hjl
      have y1 := hC.cell (t := 1) rfl
      obtain ⟨bo, cpo, hxo, hco⟩ := (hC.sr.ll l hll).get hne
      have hxo2 := HLO.out
      rw [hxo] at hxo2
      simp only [Value.slice.injEq] at hxo2
      obtain ⟨rfl, _, rfl⟩ := hxo2
      have cj : wr.cell? ⟨bo, j, none⟩ = some (.int .i64 ((m.seq l)[j] : Nat)) := hco j _ (List.getElem?_eq_getElem hjl)
      obtain ⟨b3, cap3, hv3, _, _⟩ := hC.sr.at3 (e := (m.seq l)[j]) hxc
      have hv3' : v3 = .slice (some ⟨b3, 0, none⟩) m.cnt cap3 := hv3
      subst hv3'
      have c3 : wr.cell? ⟨g, 3, none⟩ = some (.slice (some ⟨b3, 0, none⟩) m.cnt cap3) := hC.sr.c3
      have o3 := hC.sr.el (e := (m.seq l)[j]) (j := 3) hxc rfl
      have o4 := hC.sr.el (e := (m.seq l)[j]) (j := 4) hxc rfl
      have z3 := hC.sr.elz ((m.seq l)[j] * 6 + 3)
      have z4 := hC.sr.elz ((m.seq l)[j] * 6 + 4)
      have NX := Lib.hid (hC.drew.next HF.out hjl hxc)
      obtain ⟨dd, hdd⟩ := own_kind hC.sr.r3 b3 rfl
      have NG := Lib.hid (ne_kind hC.sr.pc hdd (by decide))
      have NB := Lib.hid (ne_kind hC.box hdd (by decide))
      clear hdd
      have HJ := Lib.hid hj
      have hxI : (((m.seq l)[j] : Nat) : Int) < (m.cnt : Int) := by omega
      clear hC hco hv3 hne hj hxo
      generalize hxx : (m.seq l)[j] = x at *
      clear hxx
      go_wp2_with fail
      refine wp_region_T (fun w' => w'.cell? ⟨g, 3, none⟩ = some (.slice (some ⟨b3, 0, none⟩) m.cnt cap3) ∧ w'.cell? ⟨w.heap.size, 1, none⟩ = some (.int .i64 (l : Nat))) [14, 17] [] run_mixed ?_
      simp only [List.size_toArray, List.length_cons, List.length_nil]
      have HS : wr.drew.cell? ⟨g, 3, none⟩ = some (.slice (some ⟨b3, 0, none⟩) m.cnt cap3) ∧ wr.drew.cell? ⟨w.heap.size, 1, none⟩ = some (.int .i64 (l : Nat)) := ⟨c3, y1⟩
      refine wpT_take (i := 0) (v := ?vb0) rfl (by kernel_rfl) (fun _ _ _ h => h) rfl ?yb0 ?rb0
      case yb0 => ((intro wz; go_simp); try with_reducible rfl)
      try simp only [Act.put, List.setIfInBounds_toArray, List.set_cons_zero, List.set_cons_succ]
      refine wpT_take (i := 1) (v := ?vb1) rfl (by kernel_rfl) (fun _ _ _ h => h) rfl ?yb1 ?rb1
      case yb1 => ((intro wz; go_simp); try with_reducible rfl)
      try simp only [Act.put, List.setIfInBounds_toArray, List.set_cons_zero, List.set_cons_succ]
      refine wpT_take (i := 2) (v := ?vb2) rfl (by kernel_rfl) (fun _ _ _ h => h) rfl ?yb2 ?rb2
      case yb2 => ((intro wz; go_simp); try with_reducible rfl)
      try simp only [Act.put, List.setIfInBounds_toArray, List.set_cons_zero, List.set_cons_succ]
      refine wpT_load (i := 3) (v := ?vb3) rfl (by kernel_rfl) (fun _ _ _ h => h) rfl ?yb3 HS ?rb3
      case yb3 => ((intro wz hSw; (try dsimp only at hSw); go_split_ands; go_simp); try with_reducible rfl)
      try simp only [Act.put, List.setIfInBounds_toArray, List.set_cons_zero, List.set_cons_succ]
      refine wpT_take (i := 4) (v := ?vb4) rfl (by kernel_rfl) (fun _ _ _ h => h) rfl ?yb4 ?rb4
      case yb4 => ((intro wz; go_simp); try with_reducible rfl)
      try simp only [Act.put, List.setIfInBounds_toArray, List.set_cons_zero, List.set_cons_succ]
      refine wpT_take (i := 5) (v := ?vb5) rfl (by kernel_rfl) (fun _ _ _ h => h) rfl ?yb5 ?rb5
      case yb5 => ((intro wz; go_simp); try with_reducible rfl)
      try simp only [Act.put, List.setIfInBounds_toArray, List.set_cons_zero, List.set_cons_succ]
      refine wpT_take (i := 6) (v := ?vb6) rfl (by kernel_rfl) (fun _ _ _ h => h) rfl ?yb6 ?rb6
      case yb6 => ((intro wz; go_simp); try with_reducible rfl)
      try simp only [Act.put, List.setIfInBounds_toArray, List.set_cons_zero, List.set_cons_succ]
      refine wpT_take (i := 7) (v := ?vb7) rfl (by kernel_rfl) (fun _ _ _ h => h) rfl ?yb7 ?rb7
      case yb7 => ((intro wz; go_simp); try with_reducible rfl)
      try simp only [Act.put, List.setIfInBounds_toArray, List.set_cons_zero, List.set_cons_succ]
      refine wpT_load (i := 8) (v := ?vb8) rfl (by kernel_rfl) (fun _ _ _ h => h) rfl ?yb8 HS ?rb8
      case yb8 => ((intro wz hSw; (try dsimp only at hSw); go_split_ands; go_simp); try with_reducible rfl)
      try simp only [Act.put, List.setIfInBounds_toArray, List.set_cons_zero, List.set_cons_succ]
      refine wpT_take (i := 9) (v := ?vb9) rfl (by kernel_rfl) (fun _ _ _ h => h) rfl ?yb9 ?rb9
      case yb9 => ((intro wz; go_simp); try with_reducible rfl)
      try simp only [Act.put, List.setIfInBounds_toArray, List.set_cons_zero, List.set_cons_succ]
      refine wpT_take (i := 10) (v := ?vb10) rfl (by kernel_rfl) (fun _ _ _ h => h) rfl ?yb10 ?rb10
      case yb10 => ((intro wz; go_simp); try with_reducible rfl)
      try simp only [Act.put, List.setIfInBounds_toArray, List.set_cons_zero, List.set_cons_succ]
      refine wpT_load (i := 11) (v := ?vb11) rfl (by kernel_rfl) (fun _ _ _ h => h) rfl ?yb11 HS ?rb11
      case yb11 => ((intro wz hSw; (try dsimp only at hSw); go_split_ands; go_simp); try with_reducible rfl)
      try simp only [Act.put, List.setIfInBounds_toArray, List.set_cons_zero, List.set_cons_succ]
      refine wpT_take (i := 12) (v := ?vb12) rfl (by kernel_rfl) (fun _ _ _ h => h) rfl ?yb12 ?rb12
      case yb12 => ((intro wz; go_simp); try with_reducible rfl)
      try simp only [Act.put, List.setIfInBounds_toArray, List.set_cons_zero, List.set_cons_succ]
      refine wpT_take (i := 13) (v := ?vb13) rfl (by kernel_rfl) (fun _ _ _ h => h) rfl ?yb13 ?rb13
      case yb13 => ((intro wz; go_simp); try with_reducible rfl)
      try simp only [Act.put, List.setIfInBounds_toArray, List.set_cons_zero, List.set_cons_succ]
      have HS1 : ∀ v, (wr.drew.setCell ⟨b3, x * 6 + 3, none⟩ v).cell? ⟨g, 3, none⟩ = some (.slice (some ⟨b3, 0, none⟩) m.cnt cap3) ∧ (wr.drew.setCell ⟨b3, x * 6 + 3, none⟩ v).cell? ⟨w.heap.size, 1, none⟩ = some (.int .i64 (l : Nat)) := fun v => ⟨(World.cell?_of_block (heap_set_other (a := ⟨b3, _, none⟩) NG.out)).trans c3, (World.cell?_of_block (heap_set_other (a := ⟨b3, _, none⟩) NB.out)).trans y1⟩
      have HS2 : ∀ v v', ((wr.drew.setCell ⟨b3, x * 6 + 3, none⟩ v).setCell ⟨b3, x * 6 + 4, none⟩ v').cell? ⟨g, 3, none⟩ = some (.slice (some ⟨b3, 0, none⟩) m.cnt cap3) ∧ ((wr.drew.setCell ⟨b3, x * 6 + 3, none⟩ v).setCell ⟨b3, x * 6 + 4, none⟩ v').cell? ⟨w.heap.size, 1, none⟩ = some (.int .i64 (l : Nat)) := fun v v' => ⟨(World.cell?_of_block (heap_set_other (a := ⟨b3, _, none⟩) NG.out)).trans (HS1 v).1, (World.cell?_of_block (heap_set_other (a := ⟨b3, _, none⟩) NB.out)).trans (HS1 v).2⟩
      have HS1' := Lib.hid HS1; have HS2' := Lib.hid HS2
      clear HS1 HS2
      refine wpT_run (i := 14) (by kernel_rfl) rfl rfl ?_
      go_simp
      refine ⟨cond_R (by decide) (by decide) (HS1'.out _), ?_⟩
      refine wpT_take (i := 15) (v := ?vc15) rfl (by kernel_rfl) (fun _ _ _ h => h) rfl ?yc15 ?rc15
      case yc15 => ((intro wz; go_simp); try with_reducible rfl)
      try simp only [Act.put, List.setIfInBounds_toArray, List.set_cons_zero, List.set_cons_succ]
      refine wpT_take (i := 16) (v := ?vc16) rfl (by kernel_rfl) (fun _ _ _ h => h) rfl ?yc16 ?rc16
      case yc16 => ((intro wz; go_simp); try with_reducible rfl)
      try simp only [Act.put, List.setIfInBounds_toArray, List.set_cons_zero, List.set_cons_succ]
      refine wpT_run (i := 17) (by kernel_rfl) rfl rfl ?_
      go_simp
      refine ⟨cond_R (by decide) (by decide) (HS2'.out _ _), wpT_done (by kernel_rfl) ?_ _⟩
      go_wp2
      go_roundg (gk - 1)
      case measure => omega
      case rel => exact ⟨j + 1, by have := HJ.out; omega, by go_num, NX.out⟩

end Bead
end Go.Proofs.Ytidnmanljdadaaa
