/- The reference's function permitted, a kind of call at a time (printed by gen_perm.py). -/
import Derived.Test.YtidnmanljdadaaaSpec4
set_option linter.all false
namespace Go.Proofs.Ytidnmanljdadaaa
open Go.RowKit
namespace Bead
set_option maxRecDepth 100000

theorem elem_some {m : Md} {n : Int} (h : m.elem n = true) : ∃ i e : Nat, n = (i : Nat) ∧ i < m.len ∧ m.ret i = some e := by
  simp only [Md.elem, Bool.and_eq_true, decide_eq_true_eq] at h
  obtain ⟨⟨h0, h1⟩, h2⟩ := h
  obtain ⟨i, rfl⟩ := Int.eq_ofNat_of_zero_le h0
  simp only [Int.toNat_natCast] at h2
  obtain ⟨e, he⟩ := Option.isSome_iff_exists.1 h2
  exact ⟨i, e, rfl, by omega, he⟩
theorem list_some {m : Md} {n : Int} (h : m.list n = true) : ∃ i : Nat, n = (i : Nat) ∧ i < m.len ∧ m.isL i = true := by
  simp only [Md.list, Bool.and_eq_true, decide_eq_true_eq] at h
  obtain ⟨⟨h0, h1⟩, h2⟩ := h
  obtain ⟨i, rfl⟩ := Int.eq_ofNat_of_zero_le h0
  exact ⟨i, rfl, by omega, by simpa using h2⟩

section
variable {w : World} {B g : Nat} {m : Md} {v0 v1 v2 v3 : Value} {ls : Nat → Value}

theorem perm_out (w : World) (m : Md) {g : Nat} {op list other elem mark : Int} {v : Vl} (h : op < 0 ∨ 22 ≤ op) :
    Calls Try.prog 51 #[.pointer (some ⟨g, 0, none⟩), Cl.agg' ⟨op, list, other, elem, mark, v⟩] w fun r w' => r = .returned (.bool (m.permitted 500 ⟨op, list, other, elem, mark, v⟩)) ∧ Below w.heap.size w w' := by
  unfold Cl.agg'
  by_cases h0 : op < 0
  · have e1 : m.permitted 500 ⟨op, list, other, elem, mark, v⟩ = false := by
      have : decide (0 ≤ op) = false := by simp; omega
      simp [Md.permitted, this]
    rw [e1]
    clear h e1
    go_enter Try.func51, Try.ntmps51
    go_wp2
    go_ret
    exact ⟨rfl, below1 _ _⟩
  · have h1 : 22 ≤ op := by omega
    have d0 : decide (op < 0) = false := by simpa using h0
    have e1 : m.permitted 500 ⟨op, list, other, elem, mark, v⟩ = false := by
      have : decide (op < 22) = false := by simp; omega
      simp [Md.permitted, this]
    rw [e1]
    clear h e1
    go_enter Try.func51, Try.ntmps51
    go_wp2
    go_ret
    exact ⟨rfl, below1 _ _⟩


set_option maxHeartbeats 1000000 in
theorem perm_0 (h : SR w B g m v0 v1 v2 v3 ls) (hw : WF m) (list other elem mark : Int) (v : Vl) (hlen : m.len ≤ 4611686018427387904) (hcnt : m.cnt ≤ 1000000) (hs : ∀ l, (m.seq l).length ≤ 1000000) :
    Calls Try.prog 51 #[.pointer (some ⟨g, 0, none⟩), Cl.agg' ⟨0, list, other, elem, mark, v⟩] w fun r w' => r = .returned (.bool (m.permitted 500 ⟨0, list, other, elem, mark, v⟩)) ∧ Below w.heap.size w w' := by
  unfold Cl.agg'
  have U : ∀ W, Calls Try.prog 90 #[.int .i64 0] W fun r w' => r = .returned (.tuple #[.bool false, .bool false, .bool false, .bool false]) ∧ w' = W := fun W => uses_c 0 (by decide) (by decide) W
  have e0 : m.permitted 500 ⟨0, list, other, elem, mark, v⟩ = m.permitted 500 ⟨0, list, other, elem, mark, v⟩ := rfl
  generalize hP : m.permitted 500 ⟨0, list, other, elem, mark, v⟩ = P0 at *
  clear e0
  have HP := Lib.hid hP; have H := Lib.hid h; have HW := Lib.hid hw; have HS := Lib.hid hs
  clear hP h hw hs
  go_enter Try.func51, Try.ntmps51
  go_wp2_with fail
  refine (U _).mono ?_
  rintro r w' ⟨rfl, rfl⟩
  clear U
  have c3 := fun o => (H.out.alloc o).c3
  obtain ⟨a3, cap3, ev3⟩ := own_len H.out.r3
  simp only [ev3] at c3
  clear ev3
  go_wp2
  go_ret
  exact ⟨by rw [← HP.out]; simp [Md.permitted, usesList, usesOther, usesElem, usesMark, makes], below1 _ _⟩

set_option maxHeartbeats 1000000 in
theorem perm_1 (h : SR w B g m v0 v1 v2 v3 ls) (hw : WF m) (list other elem mark : Int) (v : Vl) (hlen : m.len ≤ 4611686018427387904) (hcnt : m.cnt ≤ 1000000) (hs : ∀ l, (m.seq l).length ≤ 1000000) :
    Calls Try.prog 51 #[.pointer (some ⟨g, 0, none⟩), Cl.agg' ⟨1, list, other, elem, mark, v⟩] w fun r w' => r = .returned (.bool (m.permitted 500 ⟨1, list, other, elem, mark, v⟩)) ∧ Below w.heap.size w w' := by
  unfold Cl.agg'
  have U : ∀ W, Calls Try.prog 90 #[.int .i64 1] W fun r w' => r = .returned (.tuple #[.bool false, .bool false, .bool false, .bool false]) ∧ w' = W := fun W => uses_c 1 (by decide) (by decide) W
  have e0 : m.permitted 500 ⟨1, list, other, elem, mark, v⟩ = m.permitted 500 ⟨1, list, other, elem, mark, v⟩ := rfl
  generalize hP : m.permitted 500 ⟨1, list, other, elem, mark, v⟩ = P0 at *
  clear e0
  have HP := Lib.hid hP; have H := Lib.hid h; have HW := Lib.hid hw; have HS := Lib.hid hs
  clear hP h hw hs
  go_enter Try.func51, Try.ntmps51
  go_wp2_with fail
  refine (U _).mono ?_
  rintro r w' ⟨rfl, rfl⟩
  clear U
  have c3 := fun o => (H.out.alloc o).c3
  obtain ⟨a3, cap3, ev3⟩ := own_len H.out.r3
  simp only [ev3] at c3
  clear ev3
  go_wp2
  go_ret
  exact ⟨by rw [← HP.out]; simp [Md.permitted, usesList, usesOther, usesElem, usesMark, makes], below1 _ _⟩

set_option maxHeartbeats 1000000 in
theorem perm_2 (h : SR w B g m v0 v1 v2 v3 ls) (hw : WF m) (list other elem mark : Int) (v : Vl) (hlen : m.len ≤ 4611686018427387904) (hcnt : m.cnt ≤ 1000000) (hs : ∀ l, (m.seq l).length ≤ 1000000) :
    Calls Try.prog 51 #[.pointer (some ⟨g, 0, none⟩), Cl.agg' ⟨2, list, other, elem, mark, v⟩] w fun r w' => r = .returned (.bool (m.permitted 500 ⟨2, list, other, elem, mark, v⟩)) ∧ Below w.heap.size w w' := by
  unfold Cl.agg'
  have U : ∀ W, Calls Try.prog 90 #[.int .i64 2] W fun r w' => r = .returned (.tuple #[.bool false, .bool false, .bool false, .bool false]) ∧ w' = W := fun W => uses_c 2 (by decide) (by decide) W
  have e0 : m.permitted 500 ⟨2, list, other, elem, mark, v⟩ = m.permitted 500 ⟨2, list, other, elem, mark, v⟩ := rfl
  generalize hP : m.permitted 500 ⟨2, list, other, elem, mark, v⟩ = P0 at *
  clear e0
  have HP := Lib.hid hP; have H := Lib.hid h; have HW := Lib.hid hw; have HS := Lib.hid hs
  clear hP h hw hs
  go_enter Try.func51, Try.ntmps51
  go_wp2_with fail
  refine (U _).mono ?_
  rintro r w' ⟨rfl, rfl⟩
  clear U
  have c3 := fun o => (H.out.alloc o).c3
  obtain ⟨a3, cap3, ev3⟩ := own_len H.out.r3
  simp only [ev3] at c3
  clear ev3
  go_wp2
  go_ret
  refine ⟨?_, below1 _ _⟩
  rw [← HP.out]
  simp [Md.permitted, usesList, usesOther, usesElem, usesMark, makes]
  try omega

set_option maxHeartbeats 1000000 in
theorem perm_3 (h : SR w B g m v0 v1 v2 v3 ls) (hw : WF m) (list other elem mark : Int) (v : Vl) (hlen : m.len ≤ 4611686018427387904) (hcnt : m.cnt ≤ 1000000) (hs : ∀ l, (m.seq l).length ≤ 1000000) :
    Calls Try.prog 51 #[.pointer (some ⟨g, 0, none⟩), Cl.agg' ⟨3, list, other, elem, mark, v⟩] w fun r w' => r = .returned (.bool (m.permitted 500 ⟨3, list, other, elem, mark, v⟩)) ∧ Below w.heap.size w w' := by
  unfold Cl.agg'
  have U : ∀ W, Calls Try.prog 90 #[.int .i64 3] W fun r w' => r = .returned (.tuple #[.bool true, .bool false, .bool false, .bool false]) ∧ w' = W := fun W => uses_c 3 (by decide) (by decide) W
  have e0 : m.permitted 500 ⟨3, list, other, elem, mark, v⟩ = m.permitted 500 ⟨3, list, other, elem, mark, v⟩ := rfl
  generalize hP : m.permitted 500 ⟨3, list, other, elem, mark, v⟩ = P0 at *
  clear e0
  have HP := Lib.hid hP; have H := Lib.hid h; have HW := Lib.hid hw; have HS := Lib.hid hs
  clear hP h hw hs
  go_enter Try.func51, Try.ntmps51
  go_wp2_with fail
  refine (U _).mono ?_
  rintro r w' ⟨rfl, rfl⟩
  clear U
  go_wp2_with fail
  refine (list_c (H.out.alloc _) list hlen).mono ?_
  rintro r w' ⟨rfl, rfl⟩
  cases hl : m.list list
  · go_wp2
    go_ret
    exact ⟨by rw [← HP.out]; simp [Md.permitted, usesList, usesOther, usesElem, usesMark, makes, hl], below1 _ _⟩
  · skip
    have c3 := fun o => (H.out.alloc o).c3
    obtain ⟨a3, cap3, ev3⟩ := own_len H.out.r3
    simp only [ev3] at c3
    clear ev3
    go_wp2
    go_ret
    refine ⟨?_, below1 _ _⟩
    rw [← HP.out]
    simp [Md.permitted, usesList, usesOther, usesElem, usesMark, makes, hl]
    try omega

set_option maxHeartbeats 1000000 in
theorem perm_4 (h : SR w B g m v0 v1 v2 v3 ls) (hw : WF m) (list other elem mark : Int) (v : Vl) (hlen : m.len ≤ 4611686018427387904) (hcnt : m.cnt ≤ 1000000) (hs : ∀ l, (m.seq l).length ≤ 1000000) :
    Calls Try.prog 51 #[.pointer (some ⟨g, 0, none⟩), Cl.agg' ⟨4, list, other, elem, mark, v⟩] w fun r w' => r = .returned (.bool (m.permitted 500 ⟨4, list, other, elem, mark, v⟩)) ∧ Below w.heap.size w w' := by
  unfold Cl.agg'
  have U : ∀ W, Calls Try.prog 90 #[.int .i64 4] W fun r w' => r = .returned (.tuple #[.bool true, .bool false, .bool false, .bool false]) ∧ w' = W := fun W => uses_c 4 (by decide) (by decide) W
  have e0 : m.permitted 500 ⟨4, list, other, elem, mark, v⟩ = m.permitted 500 ⟨4, list, other, elem, mark, v⟩ := rfl
  generalize hP : m.permitted 500 ⟨4, list, other, elem, mark, v⟩ = P0 at *
  clear e0
  have HP := Lib.hid hP; have H := Lib.hid h; have HW := Lib.hid hw; have HS := Lib.hid hs
  clear hP h hw hs
  go_enter Try.func51, Try.ntmps51
  go_wp2_with fail
  refine (U _).mono ?_
  rintro r w' ⟨rfl, rfl⟩
  clear U
  go_wp2_with fail
  refine (list_c (H.out.alloc _) list hlen).mono ?_
  rintro r w' ⟨rfl, rfl⟩
  cases hl : m.list list
  · go_wp2
    go_ret
    exact ⟨by rw [← HP.out]; simp [Md.permitted, usesList, usesOther, usesElem, usesMark, makes, hl], below1 _ _⟩
  · skip
    have c3 := fun o => (H.out.alloc o).c3
    obtain ⟨a3, cap3, ev3⟩ := own_len H.out.r3
    simp only [ev3] at c3
    clear ev3
    go_wp2
    go_ret
    refine ⟨?_, below1 _ _⟩
    rw [← HP.out]
    simp [Md.permitted, usesList, usesOther, usesElem, usesMark, makes, hl]
    try omega

set_option maxHeartbeats 1000000 in
theorem perm_5 (h : SR w B g m v0 v1 v2 v3 ls) (hw : WF m) (list other elem mark : Int) (v : Vl) (hlen : m.len ≤ 4611686018427387904) (hcnt : m.cnt ≤ 1000000) (hs : ∀ l, (m.seq l).length ≤ 1000000) :
    Calls Try.prog 51 #[.pointer (some ⟨g, 0, none⟩), Cl.agg' ⟨5, list, other, elem, mark, v⟩] w fun r w' => r = .returned (.bool (m.permitted 500 ⟨5, list, other, elem, mark, v⟩)) ∧ Below w.heap.size w w' := by
  unfold Cl.agg'
  have U : ∀ W, Calls Try.prog 90 #[.int .i64 5] W fun r w' => r = .returned (.tuple #[.bool true, .bool false, .bool false, .bool true]) ∧ w' = W := fun W => uses_c 5 (by decide) (by decide) W
  have e0 : m.permitted 500 ⟨5, list, other, elem, mark, v⟩ = m.permitted 500 ⟨5, list, other, elem, mark, v⟩ := rfl
  generalize hP : m.permitted 500 ⟨5, list, other, elem, mark, v⟩ = P0 at *
  clear e0
  have HP := Lib.hid hP; have H := Lib.hid h; have HW := Lib.hid hw; have HS := Lib.hid hs
  clear hP h hw hs
  go_enter Try.func51, Try.ntmps51
  go_wp2_with fail
  refine (U _).mono ?_
  rintro r w' ⟨rfl, rfl⟩
  clear U
  go_wp2_with fail
  refine (list_c (H.out.alloc _) list hlen).mono ?_
  rintro r w' ⟨rfl, rfl⟩
  cases hl : m.list list
  · go_wp2
    go_ret
    exact ⟨by rw [← HP.out]; simp [Md.permitted, usesList, usesOther, usesElem, usesMark, makes, hl], below1 _ _⟩
  · skip
    go_wp2_with fail
    refine (element_c (H.out.alloc _) mark hlen).mono ?_
    rintro r w' ⟨rfl, rfl⟩
    cases hm : m.elem mark
    · go_wp2
      go_ret
      exact ⟨by rw [← HP.out]; simp [Md.permitted, usesList, usesOther, usesElem, usesMark, makes, hl, hm], below1 _ _⟩
    · skip
      obtain ⟨im, xim, rfl, lim, rim⟩ := elem_some hm
      have zim := (HW.out.rlt im xim rim).2
      go_wp2_with fail
      refine (stale_c (H.out.alloc _) (op := 5) (list := list) (other := other) (elem := elem) (mark := im) (v := v) lim rim zim hlen (by omega)).mono ?_
      rintro r w1 ⟨rfl, hb1⟩
      have HB1 : Hid (Below w.heap.size w w1) := (below1 w _).trans (hb1.mono (by simp))
      have bx1 : ∀ j y, (#[Value.int .i64 5, .int .i64 list, .int .i64 other, .int .i64 elem, .int .i64 im, .int .i64 v.kind, .int .i64 v.n, .string v.s])[j]? = some y → w1.cell? ⟨w.heap.size, j, none⟩ = some y := fun j y hy => by
        rw [hb1.cell (p := ⟨w.heap.size, j, none⟩) (by simp)]; exact cell_of_heap (heap_alloc_new w _) hy
      have y10 := bx1 0 _ rfl
      have y11 := bx1 1 _ rfl
      have y12 := bx1 2 _ rfl
      have y13 := bx1 3 _ rfl
      have y14 := bx1 4 _ rfl
      have y15 := bx1 5 _ rfl
      have y16 := bx1 6 _ rfl
      have y17 := bx1 7 _ rfl
      have c31 := (H.out.below HB1.out).c3
      obtain ⟨a3, cap3, ev3⟩ := own_len H.out.r3
      rw [ev3] at c31
      clear hb1
      clear bx1
      cases sim : m.stale ⟨5, list, other, elem, im, v⟩ im
      case' true =>
        go_wp2
        go_ret
        exact ⟨by rw [← HP.out]; simp [Md.permitted, usesList, usesOther, usesElem, usesMark, makes, hl, hm, sim], HB1.out⟩
      clear ev3
      go_wp2
      go_ret
      refine ⟨?_, HB1.out⟩
      rw [← HP.out]
      simp [Md.permitted, usesList, usesOther, usesElem, usesMark, makes, hl, hm, sim]
      try omega

set_option maxHeartbeats 1000000 in
theorem perm_6 (h : SR w B g m v0 v1 v2 v3 ls) (hw : WF m) (list other elem mark : Int) (v : Vl) (hlen : m.len ≤ 4611686018427387904) (hcnt : m.cnt ≤ 1000000) (hs : ∀ l, (m.seq l).length ≤ 1000000) :
    Calls Try.prog 51 #[.pointer (some ⟨g, 0, none⟩), Cl.agg' ⟨6, list, other, elem, mark, v⟩] w fun r w' => r = .returned (.bool (m.permitted 500 ⟨6, list, other, elem, mark, v⟩)) ∧ Below w.heap.size w w' := by
  unfold Cl.agg'
  have U : ∀ W, Calls Try.prog 90 #[.int .i64 6] W fun r w' => r = .returned (.tuple #[.bool true, .bool false, .bool false, .bool true]) ∧ w' = W := fun W => uses_c 6 (by decide) (by decide) W
  have e0 : m.permitted 500 ⟨6, list, other, elem, mark, v⟩ = m.permitted 500 ⟨6, list, other, elem, mark, v⟩ := rfl
  generalize hP : m.permitted 500 ⟨6, list, other, elem, mark, v⟩ = P0 at *
  clear e0
  have HP := Lib.hid hP; have H := Lib.hid h; have HW := Lib.hid hw; have HS := Lib.hid hs
  clear hP h hw hs
  go_enter Try.func51, Try.ntmps51
  go_wp2_with fail
  refine (U _).mono ?_
  rintro r w' ⟨rfl, rfl⟩
  clear U
  go_wp2_with fail
  refine (list_c (H.out.alloc _) list hlen).mono ?_
  rintro r w' ⟨rfl, rfl⟩
  cases hl : m.list list
  · go_wp2
    go_ret
    exact ⟨by rw [← HP.out]; simp [Md.permitted, usesList, usesOther, usesElem, usesMark, makes, hl], below1 _ _⟩
  · skip
    go_wp2_with fail
    refine (element_c (H.out.alloc _) mark hlen).mono ?_
    rintro r w' ⟨rfl, rfl⟩
    cases hm : m.elem mark
    · go_wp2
      go_ret
      exact ⟨by rw [← HP.out]; simp [Md.permitted, usesList, usesOther, usesElem, usesMark, makes, hl, hm], below1 _ _⟩
    · skip
      obtain ⟨im, xim, rfl, lim, rim⟩ := elem_some hm
      have zim := (HW.out.rlt im xim rim).2
      go_wp2_with fail
      refine (stale_c (H.out.alloc _) (op := 6) (list := list) (other := other) (elem := elem) (mark := im) (v := v) lim rim zim hlen (by omega)).mono ?_
      rintro r w1 ⟨rfl, hb1⟩
      have HB1 : Hid (Below w.heap.size w w1) := (below1 w _).trans (hb1.mono (by simp))
      have bx1 : ∀ j y, (#[Value.int .i64 6, .int .i64 list, .int .i64 other, .int .i64 elem, .int .i64 im, .int .i64 v.kind, .int .i64 v.n, .string v.s])[j]? = some y → w1.cell? ⟨w.heap.size, j, none⟩ = some y := fun j y hy => by
        rw [hb1.cell (p := ⟨w.heap.size, j, none⟩) (by simp)]; exact cell_of_heap (heap_alloc_new w _) hy
      have y10 := bx1 0 _ rfl
      have y11 := bx1 1 _ rfl
      have y12 := bx1 2 _ rfl
      have y13 := bx1 3 _ rfl
      have y14 := bx1 4 _ rfl
      have y15 := bx1 5 _ rfl
      have y16 := bx1 6 _ rfl
      have y17 := bx1 7 _ rfl
      have c31 := (H.out.below HB1.out).c3
      obtain ⟨a3, cap3, ev3⟩ := own_len H.out.r3
      rw [ev3] at c31
      clear hb1
      clear bx1
      cases sim : m.stale ⟨6, list, other, elem, im, v⟩ im
      case' true =>
        go_wp2
        go_ret
        exact ⟨by rw [← HP.out]; simp [Md.permitted, usesList, usesOther, usesElem, usesMark, makes, hl, hm, sim], HB1.out⟩
      clear ev3
      go_wp2
      go_ret
      refine ⟨?_, HB1.out⟩
      rw [← HP.out]
      simp [Md.permitted, usesList, usesOther, usesElem, usesMark, makes, hl, hm, sim]
      try omega

set_option maxHeartbeats 1000000 in
theorem perm_7 (h : SR w B g m v0 v1 v2 v3 ls) (hw : WF m) (list other elem mark : Int) (v : Vl) (hlen : m.len ≤ 4611686018427387904) (hcnt : m.cnt ≤ 1000000) (hs : ∀ l, (m.seq l).length ≤ 1000000) :
    Calls Try.prog 51 #[.pointer (some ⟨g, 0, none⟩), Cl.agg' ⟨7, list, other, elem, mark, v⟩] w fun r w' => r = .returned (.bool (m.permitted 500 ⟨7, list, other, elem, mark, v⟩)) ∧ Below w.heap.size w w' := by
  unfold Cl.agg'
  have U : ∀ W, Calls Try.prog 90 #[.int .i64 7] W fun r w' => r = .returned (.tuple #[.bool true, .bool false, .bool true, .bool false]) ∧ w' = W := fun W => uses_c 7 (by decide) (by decide) W
  have e0 : m.permitted 500 ⟨7, list, other, elem, mark, v⟩ = m.permitted 500 ⟨7, list, other, elem, mark, v⟩ := rfl
  generalize hP : m.permitted 500 ⟨7, list, other, elem, mark, v⟩ = P0 at *
  clear e0
  have HP := Lib.hid hP; have H := Lib.hid h; have HW := Lib.hid hw; have HS := Lib.hid hs
  clear hP h hw hs
  go_enter Try.func51, Try.ntmps51
  go_wp2_with fail
  refine (U _).mono ?_
  rintro r w' ⟨rfl, rfl⟩
  clear U
  go_wp2_with fail
  refine (list_c (H.out.alloc _) list hlen).mono ?_
  rintro r w' ⟨rfl, rfl⟩
  cases hl : m.list list
  · go_wp2
    go_ret
    exact ⟨by rw [← HP.out]; simp [Md.permitted, usesList, usesOther, usesElem, usesMark, makes, hl], below1 _ _⟩
  · skip
    go_wp2_with fail
    refine (element_c (H.out.alloc _) elem hlen).mono ?_
    rintro r w' ⟨rfl, rfl⟩
    cases he : m.elem elem
    · go_wp2
      go_ret
      exact ⟨by rw [← HP.out]; simp [Md.permitted, usesList, usesOther, usesElem, usesMark, makes, hl, he], below1 _ _⟩
    · skip
      obtain ⟨ie, xie, rfl, lie, rie⟩ := elem_some he
      have zie := (HW.out.rlt ie xie rie).2
      go_wp2_with fail
      refine (stale_c (H.out.alloc _) (op := 7) (list := list) (other := other) (elem := ie) (mark := mark) (v := v) lie rie zie hlen (by omega)).mono ?_
      rintro r w1 ⟨rfl, hb1⟩
      have HB1 : Hid (Below w.heap.size w w1) := (below1 w _).trans (hb1.mono (by simp))
      have bx1 : ∀ j y, (#[Value.int .i64 7, .int .i64 list, .int .i64 other, .int .i64 ie, .int .i64 mark, .int .i64 v.kind, .int .i64 v.n, .string v.s])[j]? = some y → w1.cell? ⟨w.heap.size, j, none⟩ = some y := fun j y hy => by
        rw [hb1.cell (p := ⟨w.heap.size, j, none⟩) (by simp)]; exact cell_of_heap (heap_alloc_new w _) hy
      have y10 := bx1 0 _ rfl
      have y11 := bx1 1 _ rfl
      have y12 := bx1 2 _ rfl
      have y13 := bx1 3 _ rfl
      have y14 := bx1 4 _ rfl
      have y15 := bx1 5 _ rfl
      have y16 := bx1 6 _ rfl
      have y17 := bx1 7 _ rfl
      have c31 := (H.out.below HB1.out).c3
      obtain ⟨a3, cap3, ev3⟩ := own_len H.out.r3
      rw [ev3] at c31
      clear hb1
      clear bx1
      cases sie : m.stale ⟨7, list, other, ie, mark, v⟩ ie
      case' true =>
        go_wp2
        go_ret
        exact ⟨by rw [← HP.out]; simp [Md.permitted, usesList, usesOther, usesElem, usesMark, makes, hl, he, sie], HB1.out⟩
      clear ev3
      go_wp2
      go_ret
      exact ⟨by rw [← HP.out]; simp [Md.permitted, usesList, usesOther, usesElem, usesMark, makes, hl, he, sie], HB1.out⟩

set_option maxHeartbeats 1000000 in
theorem perm_8 (h : SR w B g m v0 v1 v2 v3 ls) (hw : WF m) (list other elem mark : Int) (v : Vl) (hlen : m.len ≤ 4611686018427387904) (hcnt : m.cnt ≤ 1000000) (hs : ∀ l, (m.seq l).length ≤ 1000000) :
    Calls Try.prog 51 #[.pointer (some ⟨g, 0, none⟩), Cl.agg' ⟨8, list, other, elem, mark, v⟩] w fun r w' => r = .returned (.bool (m.permitted 500 ⟨8, list, other, elem, mark, v⟩)) ∧ Below w.heap.size w w' := by
  unfold Cl.agg'
  have U : ∀ W, Calls Try.prog 90 #[.int .i64 8] W fun r w' => r = .returned (.tuple #[.bool true, .bool false, .bool true, .bool false]) ∧ w' = W := fun W => uses_c 8 (by decide) (by decide) W
  have e0 : m.permitted 500 ⟨8, list, other, elem, mark, v⟩ = m.permitted 500 ⟨8, list, other, elem, mark, v⟩ := rfl
  generalize hP : m.permitted 500 ⟨8, list, other, elem, mark, v⟩ = P0 at *
  clear e0
  have HP := Lib.hid hP; have H := Lib.hid h; have HW := Lib.hid hw; have HS := Lib.hid hs
  clear hP h hw hs
  go_enter Try.func51, Try.ntmps51
  go_wp2_with fail
  refine (U _).mono ?_
  rintro r w' ⟨rfl, rfl⟩
  clear U
  go_wp2_with fail
  refine (list_c (H.out.alloc _) list hlen).mono ?_
  rintro r w' ⟨rfl, rfl⟩
  cases hl : m.list list
  · go_wp2
    go_ret
    exact ⟨by rw [← HP.out]; simp [Md.permitted, usesList, usesOther, usesElem, usesMark, makes, hl], below1 _ _⟩
  · skip
    go_wp2_with fail
    refine (element_c (H.out.alloc _) elem hlen).mono ?_
    rintro r w' ⟨rfl, rfl⟩
    cases he : m.elem elem
    · go_wp2
      go_ret
      exact ⟨by rw [← HP.out]; simp [Md.permitted, usesList, usesOther, usesElem, usesMark, makes, hl, he], below1 _ _⟩
    · skip
      obtain ⟨ie, xie, rfl, lie, rie⟩ := elem_some he
      have zie := (HW.out.rlt ie xie rie).2
      go_wp2_with fail
      refine (stale_c (H.out.alloc _) (op := 8) (list := list) (other := other) (elem := ie) (mark := mark) (v := v) lie rie zie hlen (by omega)).mono ?_
      rintro r w1 ⟨rfl, hb1⟩
      have HB1 : Hid (Below w.heap.size w w1) := (below1 w _).trans (hb1.mono (by simp))
      have bx1 : ∀ j y, (#[Value.int .i64 8, .int .i64 list, .int .i64 other, .int .i64 ie, .int .i64 mark, .int .i64 v.kind, .int .i64 v.n, .string v.s])[j]? = some y → w1.cell? ⟨w.heap.size, j, none⟩ = some y := fun j y hy => by
        rw [hb1.cell (p := ⟨w.heap.size, j, none⟩) (by simp)]; exact cell_of_heap (heap_alloc_new w _) hy
      have y10 := bx1 0 _ rfl
      have y11 := bx1 1 _ rfl
      have y12 := bx1 2 _ rfl
      have y13 := bx1 3 _ rfl
      have y14 := bx1 4 _ rfl
      have y15 := bx1 5 _ rfl
      have y16 := bx1 6 _ rfl
      have y17 := bx1 7 _ rfl
      have c31 := (H.out.below HB1.out).c3
      obtain ⟨a3, cap3, ev3⟩ := own_len H.out.r3
      rw [ev3] at c31
      clear hb1
      clear bx1
      cases sie : m.stale ⟨8, list, other, ie, mark, v⟩ ie
      case' true =>
        go_wp2
        go_ret
        exact ⟨by rw [← HP.out]; simp [Md.permitted, usesList, usesOther, usesElem, usesMark, makes, hl, he, sie], HB1.out⟩
      clear ev3
      go_wp2
      go_ret
      exact ⟨by rw [← HP.out]; simp [Md.permitted, usesList, usesOther, usesElem, usesMark, makes, hl, he, sie], HB1.out⟩

set_option maxHeartbeats 1000000 in
theorem perm_9 (h : SR w B g m v0 v1 v2 v3 ls) (hw : WF m) (list other elem mark : Int) (v : Vl) (hlen : m.len ≤ 4611686018427387904) (hcnt : m.cnt ≤ 1000000) (hs : ∀ l, (m.seq l).length ≤ 1000000) :
    Calls Try.prog 51 #[.pointer (some ⟨g, 0, none⟩), Cl.agg' ⟨9, list, other, elem, mark, v⟩] w fun r w' => r = .returned (.bool (m.permitted 500 ⟨9, list, other, elem, mark, v⟩)) ∧ Below w.heap.size w w' := by
  unfold Cl.agg'
  have U : ∀ W, Calls Try.prog 90 #[.int .i64 9] W fun r w' => r = .returned (.tuple #[.bool true, .bool false, .bool true, .bool true]) ∧ w' = W := fun W => uses_c 9 (by decide) (by decide) W
  have e0 : m.permitted 500 ⟨9, list, other, elem, mark, v⟩ = m.permitted 500 ⟨9, list, other, elem, mark, v⟩ := rfl
  generalize hP : m.permitted 500 ⟨9, list, other, elem, mark, v⟩ = P0 at *
  clear e0
  have HP := Lib.hid hP; have H := Lib.hid h; have HW := Lib.hid hw; have HS := Lib.hid hs
  clear hP h hw hs
  go_enter Try.func51, Try.ntmps51
  go_wp2_with fail
  refine (U _).mono ?_
  rintro r w' ⟨rfl, rfl⟩
  clear U
  go_wp2_with fail
  refine (list_c (H.out.alloc _) list hlen).mono ?_
  rintro r w' ⟨rfl, rfl⟩
  cases hl : m.list list
  · go_wp2
    go_ret
    exact ⟨by rw [← HP.out]; simp [Md.permitted, usesList, usesOther, usesElem, usesMark, makes, hl], below1 _ _⟩
  · skip
    go_wp2_with fail
    refine (element_c (H.out.alloc _) elem hlen).mono ?_
    rintro r w' ⟨rfl, rfl⟩
    cases he : m.elem elem
    · go_wp2
      go_ret
      exact ⟨by rw [← HP.out]; simp [Md.permitted, usesList, usesOther, usesElem, usesMark, makes, hl, he], below1 _ _⟩
    · skip
      go_wp2_with fail
      refine (element_c (H.out.alloc _) mark hlen).mono ?_
      rintro r w' ⟨rfl, rfl⟩
      cases hm : m.elem mark
      · go_wp2
        go_ret
        exact ⟨by rw [← HP.out]; simp [Md.permitted, usesList, usesOther, usesElem, usesMark, makes, hl, he, hm], below1 _ _⟩
      · skip
        obtain ⟨ie, xie, rfl, lie, rie⟩ := elem_some he
        have zie := (HW.out.rlt ie xie rie).2
        obtain ⟨im, xim, rfl, lim, rim⟩ := elem_some hm
        have zim := (HW.out.rlt im xim rim).2
        go_wp2_with fail
        refine (stale_c (H.out.alloc _) (op := 9) (list := list) (other := other) (elem := ie) (mark := im) (v := v) lie rie zie hlen (by omega)).mono ?_
        rintro r w1 ⟨rfl, hb1⟩
        have HB1 : Hid (Below w.heap.size w w1) := (below1 w _).trans (hb1.mono (by simp))
        have bx1 : ∀ j y, (#[Value.int .i64 9, .int .i64 list, .int .i64 other, .int .i64 ie, .int .i64 im, .int .i64 v.kind, .int .i64 v.n, .string v.s])[j]? = some y → w1.cell? ⟨w.heap.size, j, none⟩ = some y := fun j y hy => by
          rw [hb1.cell (p := ⟨w.heap.size, j, none⟩) (by simp)]; exact cell_of_heap (heap_alloc_new w _) hy
        have y10 := bx1 0 _ rfl
        have y11 := bx1 1 _ rfl
        have y12 := bx1 2 _ rfl
        have y13 := bx1 3 _ rfl
        have y14 := bx1 4 _ rfl
        have y15 := bx1 5 _ rfl
        have y16 := bx1 6 _ rfl
        have y17 := bx1 7 _ rfl
        have c31 := (H.out.below HB1.out).c3
        clear hb1
        cases sie : m.stale ⟨9, list, other, ie, im, v⟩ ie
        case' true =>
          go_wp2
          go_ret
          exact ⟨by rw [← HP.out]; simp [Md.permitted, usesList, usesOther, usesElem, usesMark, makes, hl, he, hm, sie], HB1.out⟩
        go_wp2_with fail
        refine (stale_c (H.out.below HB1.out) (op := 9) (list := list) (other := other) (elem := ie) (mark := im) (v := v) lim rim zim hlen (by omega)).mono ?_
        rintro r w2 ⟨rfl, hb2⟩
        have HB2 : Hid (Below w.heap.size w w2) := HB1.out.trans (hb2.mono HB1.out.size)
        have bx2 : ∀ j y, (#[Value.int .i64 9, .int .i64 list, .int .i64 other, .int .i64 ie, .int .i64 im, .int .i64 v.kind, .int .i64 v.n, .string v.s])[j]? = some y → w2.cell? ⟨w.heap.size, j, none⟩ = some y := fun j y hy => by
          rw [hb2.cell (p := ⟨w.heap.size, j, none⟩) (World.block_lt_of_cell? w1 ⟨w.heap.size, 0, none⟩ (bx1 0 _ rfl))]; exact bx1 j y hy
        have y20 := bx2 0 _ rfl
        have y21 := bx2 1 _ rfl
        have y22 := bx2 2 _ rfl
        have y23 := bx2 3 _ rfl
        have y24 := bx2 4 _ rfl
        have y25 := bx2 5 _ rfl
        have y26 := bx2 6 _ rfl
        have y27 := bx2 7 _ rfl
        have c32 := (H.out.below HB2.out).c3
        obtain ⟨a3, cap3, ev3⟩ := own_len H.out.r3
        rw [ev3] at c32
        clear hb2
        clear bx1
        clear bx2
        cases sim : m.stale ⟨9, list, other, ie, im, v⟩ im
        case' true =>
          go_wp2
          go_ret
          exact ⟨by rw [← HP.out]; simp [Md.permitted, usesList, usesOther, usesElem, usesMark, makes, hl, he, hm, sie, sim], HB2.out⟩
        clear ev3
        go_wp2
        go_ret
        exact ⟨by rw [← HP.out]; simp [Md.permitted, usesList, usesOther, usesElem, usesMark, makes, hl, he, hm, sie, sim], HB2.out⟩

set_option maxHeartbeats 1000000 in
theorem perm_10 (h : SR w B g m v0 v1 v2 v3 ls) (hw : WF m) (list other elem mark : Int) (v : Vl) (hlen : m.len ≤ 4611686018427387904) (hcnt : m.cnt ≤ 1000000) (hs : ∀ l, (m.seq l).length ≤ 1000000) :
    Calls Try.prog 51 #[.pointer (some ⟨g, 0, none⟩), Cl.agg' ⟨10, list, other, elem, mark, v⟩] w fun r w' => r = .returned (.bool (m.permitted 500 ⟨10, list, other, elem, mark, v⟩)) ∧ Below w.heap.size w w' := by
  unfold Cl.agg'
  have U : ∀ W, Calls Try.prog 90 #[.int .i64 10] W fun r w' => r = .returned (.tuple #[.bool true, .bool false, .bool true, .bool true]) ∧ w' = W := fun W => uses_c 10 (by decide) (by decide) W
  have e0 : m.permitted 500 ⟨10, list, other, elem, mark, v⟩ = m.permitted 500 ⟨10, list, other, elem, mark, v⟩ := rfl
  generalize hP : m.permitted 500 ⟨10, list, other, elem, mark, v⟩ = P0 at *
  clear e0
  have HP := Lib.hid hP; have H := Lib.hid h; have HW := Lib.hid hw; have HS := Lib.hid hs
  clear hP h hw hs
  go_enter Try.func51, Try.ntmps51
  go_wp2_with fail
  refine (U _).mono ?_
  rintro r w' ⟨rfl, rfl⟩
  clear U
  go_wp2_with fail
  refine (list_c (H.out.alloc _) list hlen).mono ?_
  rintro r w' ⟨rfl, rfl⟩
  cases hl : m.list list
  · go_wp2
    go_ret
    exact ⟨by rw [← HP.out]; simp [Md.permitted, usesList, usesOther, usesElem, usesMark, makes, hl], below1 _ _⟩
  · skip
    go_wp2_with fail
    refine (element_c (H.out.alloc _) elem hlen).mono ?_
    rintro r w' ⟨rfl, rfl⟩
    cases he : m.elem elem
    · go_wp2
      go_ret
      exact ⟨by rw [← HP.out]; simp [Md.permitted, usesList, usesOther, usesElem, usesMark, makes, hl, he], below1 _ _⟩
    · skip
      go_wp2_with fail
      refine (element_c (H.out.alloc _) mark hlen).mono ?_
      rintro r w' ⟨rfl, rfl⟩
      cases hm : m.elem mark
      · go_wp2
        go_ret
        exact ⟨by rw [← HP.out]; simp [Md.permitted, usesList, usesOther, usesElem, usesMark, makes, hl, he, hm], below1 _ _⟩
      · skip
        obtain ⟨ie, xie, rfl, lie, rie⟩ := elem_some he
        have zie := (HW.out.rlt ie xie rie).2
        obtain ⟨im, xim, rfl, lim, rim⟩ := elem_some hm
        have zim := (HW.out.rlt im xim rim).2
        go_wp2_with fail
        refine (stale_c (H.out.alloc _) (op := 10) (list := list) (other := other) (elem := ie) (mark := im) (v := v) lie rie zie hlen (by omega)).mono ?_
        rintro r w1 ⟨rfl, hb1⟩
        have HB1 : Hid (Below w.heap.size w w1) := (below1 w _).trans (hb1.mono (by simp))
        have bx1 : ∀ j y, (#[Value.int .i64 10, .int .i64 list, .int .i64 other, .int .i64 ie, .int .i64 im, .int .i64 v.kind, .int .i64 v.n, .string v.s])[j]? = some y → w1.cell? ⟨w.heap.size, j, none⟩ = some y := fun j y hy => by
          rw [hb1.cell (p := ⟨w.heap.size, j, none⟩) (by simp)]; exact cell_of_heap (heap_alloc_new w _) hy
        have y10 := bx1 0 _ rfl
        have y11 := bx1 1 _ rfl
        have y12 := bx1 2 _ rfl
        have y13 := bx1 3 _ rfl
        have y14 := bx1 4 _ rfl
        have y15 := bx1 5 _ rfl
        have y16 := bx1 6 _ rfl
        have y17 := bx1 7 _ rfl
        have c31 := (H.out.below HB1.out).c3
        clear hb1
        cases sie : m.stale ⟨10, list, other, ie, im, v⟩ ie
        case' true =>
          go_wp2
          go_ret
          exact ⟨by rw [← HP.out]; simp [Md.permitted, usesList, usesOther, usesElem, usesMark, makes, hl, he, hm, sie], HB1.out⟩
        go_wp2_with fail
        refine (stale_c (H.out.below HB1.out) (op := 10) (list := list) (other := other) (elem := ie) (mark := im) (v := v) lim rim zim hlen (by omega)).mono ?_
        rintro r w2 ⟨rfl, hb2⟩
        have HB2 : Hid (Below w.heap.size w w2) := HB1.out.trans (hb2.mono HB1.out.size)
        have bx2 : ∀ j y, (#[Value.int .i64 10, .int .i64 list, .int .i64 other, .int .i64 ie, .int .i64 im, .int .i64 v.kind, .int .i64 v.n, .string v.s])[j]? = some y → w2.cell? ⟨w.heap.size, j, none⟩ = some y := fun j y hy => by
          rw [hb2.cell (p := ⟨w.heap.size, j, none⟩) (World.block_lt_of_cell? w1 ⟨w.heap.size, 0, none⟩ (bx1 0 _ rfl))]; exact bx1 j y hy
        have y20 := bx2 0 _ rfl
        have y21 := bx2 1 _ rfl
        have y22 := bx2 2 _ rfl
        have y23 := bx2 3 _ rfl
        have y24 := bx2 4 _ rfl
        have y25 := bx2 5 _ rfl
        have y26 := bx2 6 _ rfl
        have y27 := bx2 7 _ rfl
        have c32 := (H.out.below HB2.out).c3
        obtain ⟨a3, cap3, ev3⟩ := own_len H.out.r3
        rw [ev3] at c32
        clear hb2
        clear bx1
        clear bx2
        cases sim : m.stale ⟨10, list, other, ie, im, v⟩ im
        case' true =>
          go_wp2
          go_ret
          exact ⟨by rw [← HP.out]; simp [Md.permitted, usesList, usesOther, usesElem, usesMark, makes, hl, he, hm, sie, sim], HB2.out⟩
        clear ev3
        go_wp2
        go_ret
        exact ⟨by rw [← HP.out]; simp [Md.permitted, usesList, usesOther, usesElem, usesMark, makes, hl, he, hm, sie, sim], HB2.out⟩

set_option maxHeartbeats 1000000 in
theorem perm_11 (h : SR w B g m v0 v1 v2 v3 ls) (hw : WF m) (list other elem mark : Int) (v : Vl) (hlen : m.len ≤ 4611686018427387904) (hcnt : m.cnt ≤ 1000000) (hs : ∀ l, (m.seq l).length ≤ 1000000) :
    Calls Try.prog 51 #[.pointer (some ⟨g, 0, none⟩), Cl.agg' ⟨11, list, other, elem, mark, v⟩] w fun r w' => r = .returned (.bool (m.permitted 500 ⟨11, list, other, elem, mark, v⟩)) ∧ Below w.heap.size w w' := by
  unfold Cl.agg'
  have U : ∀ W, Calls Try.prog 90 #[.int .i64 11] W fun r w' => r = .returned (.tuple #[.bool true, .bool false, .bool true, .bool false]) ∧ w' = W := fun W => uses_c 11 (by decide) (by decide) W
  have e0 : m.permitted 500 ⟨11, list, other, elem, mark, v⟩ = m.permitted 500 ⟨11, list, other, elem, mark, v⟩ := rfl
  generalize hP : m.permitted 500 ⟨11, list, other, elem, mark, v⟩ = P0 at *
  clear e0
  have HP := Lib.hid hP; have H := Lib.hid h; have HW := Lib.hid hw; have HS := Lib.hid hs
  clear hP h hw hs
  go_enter Try.func51, Try.ntmps51
  go_wp2_with fail
  refine (U _).mono ?_
  rintro r w' ⟨rfl, rfl⟩
  clear U
  go_wp2_with fail
  refine (list_c (H.out.alloc _) list hlen).mono ?_
  rintro r w' ⟨rfl, rfl⟩
  cases hl : m.list list
  · go_wp2
    go_ret
    exact ⟨by rw [← HP.out]; simp [Md.permitted, usesList, usesOther, usesElem, usesMark, makes, hl], below1 _ _⟩
  · skip
    go_wp2_with fail
    refine (element_c (H.out.alloc _) elem hlen).mono ?_
    rintro r w' ⟨rfl, rfl⟩
    cases he : m.elem elem
    · go_wp2
      go_ret
      exact ⟨by rw [← HP.out]; simp [Md.permitted, usesList, usesOther, usesElem, usesMark, makes, hl, he], below1 _ _⟩
    · skip
      obtain ⟨ie, xie, rfl, lie, rie⟩ := elem_some he
      have zie := (HW.out.rlt ie xie rie).2
      go_wp2_with fail
      refine (stale_c (H.out.alloc _) (op := 11) (list := list) (other := other) (elem := ie) (mark := mark) (v := v) lie rie zie hlen (by omega)).mono ?_
      rintro r w1 ⟨rfl, hb1⟩
      have HB1 : Hid (Below w.heap.size w w1) := (below1 w _).trans (hb1.mono (by simp))
      have bx1 : ∀ j y, (#[Value.int .i64 11, .int .i64 list, .int .i64 other, .int .i64 ie, .int .i64 mark, .int .i64 v.kind, .int .i64 v.n, .string v.s])[j]? = some y → w1.cell? ⟨w.heap.size, j, none⟩ = some y := fun j y hy => by
        rw [hb1.cell (p := ⟨w.heap.size, j, none⟩) (by simp)]; exact cell_of_heap (heap_alloc_new w _) hy
      have y10 := bx1 0 _ rfl
      have y11 := bx1 1 _ rfl
      have y12 := bx1 2 _ rfl
      have y13 := bx1 3 _ rfl
      have y14 := bx1 4 _ rfl
      have y15 := bx1 5 _ rfl
      have y16 := bx1 6 _ rfl
      have y17 := bx1 7 _ rfl
      have c31 := (H.out.below HB1.out).c3
      obtain ⟨a3, cap3, ev3⟩ := own_len H.out.r3
      rw [ev3] at c31
      clear hb1
      clear bx1
      cases sie : m.stale ⟨11, list, other, ie, mark, v⟩ ie
      case' true =>
        go_wp2
        go_ret
        exact ⟨by rw [← HP.out]; simp [Md.permitted, usesList, usesOther, usesElem, usesMark, makes, hl, he, sie], HB1.out⟩
      clear ev3
      go_wp2
      go_ret
      exact ⟨by rw [← HP.out]; simp [Md.permitted, usesList, usesOther, usesElem, usesMark, makes, hl, he, sie], HB1.out⟩

set_option maxHeartbeats 1000000 in
theorem perm_12 (h : SR w B g m v0 v1 v2 v3 ls) (hw : WF m) (list other elem mark : Int) (v : Vl) (hlen : m.len ≤ 4611686018427387904) (hcnt : m.cnt ≤ 1000000) (hs : ∀ l, (m.seq l).length ≤ 1000000) :
    Calls Try.prog 51 #[.pointer (some ⟨g, 0, none⟩), Cl.agg' ⟨12, list, other, elem, mark, v⟩] w fun r w' => r = .returned (.bool (m.permitted 500 ⟨12, list, other, elem, mark, v⟩)) ∧ Below w.heap.size w w' := by
  unfold Cl.agg'
  have U : ∀ W, Calls Try.prog 90 #[.int .i64 12] W fun r w' => r = .returned (.tuple #[.bool true, .bool true, .bool false, .bool false]) ∧ w' = W := fun W => uses_c 12 (by decide) (by decide) W
  have e0 : m.permitted 500 ⟨12, list, other, elem, mark, v⟩ = m.permitted 500 ⟨12, list, other, elem, mark, v⟩ := rfl
  generalize hP : m.permitted 500 ⟨12, list, other, elem, mark, v⟩ = P0 at *
  clear e0
  have HP := Lib.hid hP; have H := Lib.hid h; have HW := Lib.hid hw; have HS := Lib.hid hs
  clear hP h hw hs
  go_enter Try.func51, Try.ntmps51
  go_wp2_with fail
  refine (U _).mono ?_
  rintro r w' ⟨rfl, rfl⟩
  clear U
  go_wp2_with fail
  refine (list_c (H.out.alloc _) list hlen).mono ?_
  rintro r w' ⟨rfl, rfl⟩
  cases hl : m.list list
  · go_wp2
    go_ret
    exact ⟨by rw [← HP.out]; simp [Md.permitted, usesList, usesOther, usesElem, usesMark, makes, hl], below1 _ _⟩
  · skip
    go_wp2_with fail
    refine (list_c (H.out.alloc _) other hlen).mono ?_
    rintro r w' ⟨rfl, rfl⟩
    cases ho : m.list other
    · go_wp2
      go_ret
      exact ⟨by rw [← HP.out]; simp [Md.permitted, usesList, usesOther, usesElem, usesMark, makes, hl, ho], below1 _ _⟩
    · skip
      have c3 := fun o => (H.out.alloc o).c3
      obtain ⟨a3, cap3, ev3⟩ := own_len H.out.r3
      simp only [ev3] at c3
      obtain ⟨io, rfl, lo, _⟩ := list_some ho
      have c1 := fun o => (H.out.alloc o).c1
      obtain ⟨b1, cap1, ev1, _, _⟩ := H.out.at1 lo
      simp only [ev1] at c1
      have g1 : ∀ o, (w.alloc o).cell? ⟨b1, io, none⟩ = some (ls io) := fun o => by
        obtain ⟨b, cap, q, c, _⟩ := (H.out.alloc o).at1 lo; rw [ev1] at q; simp at q; obtain ⟨rfl, _⟩ := q; exact c
      obtain ⟨ax, capx, ex⟩ := (H.out.ll io lo).form
      simp only [ex] at g1
      have hso := HS.out io
      clear ev1 ex ev3
      go_wp2
      go_quiet (fail)
      go_wp2
      go_ret
      refine ⟨?_, below1n _ _ _⟩
      rw [← HP.out]
      simp [Md.permitted, usesList, usesOther, usesElem, usesMark, makes, hl, ho]
      omega

set_option maxHeartbeats 1000000 in
theorem perm_13 (h : SR w B g m v0 v1 v2 v3 ls) (hw : WF m) (list other elem mark : Int) (v : Vl) (hlen : m.len ≤ 4611686018427387904) (hcnt : m.cnt ≤ 1000000) (hs : ∀ l, (m.seq l).length ≤ 1000000) :
    Calls Try.prog 51 #[.pointer (some ⟨g, 0, none⟩), Cl.agg' ⟨13, list, other, elem, mark, v⟩] w fun r w' => r = .returned (.bool (m.permitted 500 ⟨13, list, other, elem, mark, v⟩)) ∧ Below w.heap.size w w' := by
  unfold Cl.agg'
  have U : ∀ W, Calls Try.prog 90 #[.int .i64 13] W fun r w' => r = .returned (.tuple #[.bool true, .bool true, .bool false, .bool false]) ∧ w' = W := fun W => uses_c 13 (by decide) (by decide) W
  have e0 : m.permitted 500 ⟨13, list, other, elem, mark, v⟩ = m.permitted 500 ⟨13, list, other, elem, mark, v⟩ := rfl
  generalize hP : m.permitted 500 ⟨13, list, other, elem, mark, v⟩ = P0 at *
  clear e0
  have HP := Lib.hid hP; have H := Lib.hid h; have HW := Lib.hid hw; have HS := Lib.hid hs
  clear hP h hw hs
  go_enter Try.func51, Try.ntmps51
  go_wp2_with fail
  refine (U _).mono ?_
  rintro r w' ⟨rfl, rfl⟩
  clear U
  go_wp2_with fail
  refine (list_c (H.out.alloc _) list hlen).mono ?_
  rintro r w' ⟨rfl, rfl⟩
  cases hl : m.list list
  · go_wp2
    go_ret
    exact ⟨by rw [← HP.out]; simp [Md.permitted, usesList, usesOther, usesElem, usesMark, makes, hl], below1 _ _⟩
  · skip
    go_wp2_with fail
    refine (list_c (H.out.alloc _) other hlen).mono ?_
    rintro r w' ⟨rfl, rfl⟩
    cases ho : m.list other
    · go_wp2
      go_ret
      exact ⟨by rw [← HP.out]; simp [Md.permitted, usesList, usesOther, usesElem, usesMark, makes, hl, ho], below1 _ _⟩
    · skip
      have c3 := fun o => (H.out.alloc o).c3
      obtain ⟨a3, cap3, ev3⟩ := own_len H.out.r3
      simp only [ev3] at c3
      obtain ⟨io, rfl, lo, _⟩ := list_some ho
      have c1 := fun o => (H.out.alloc o).c1
      obtain ⟨b1, cap1, ev1, _, _⟩ := H.out.at1 lo
      simp only [ev1] at c1
      have g1 : ∀ o, (w.alloc o).cell? ⟨b1, io, none⟩ = some (ls io) := fun o => by
        obtain ⟨b, cap, q, c, _⟩ := (H.out.alloc o).at1 lo; rw [ev1] at q; simp at q; obtain ⟨rfl, _⟩ := q; exact c
      obtain ⟨ax, capx, ex⟩ := (H.out.ll io lo).form
      simp only [ex] at g1
      have hso := HS.out io
      clear ev1 ex ev3
      go_wp2
      go_quiet (fail)
      go_wp2
      go_ret
      refine ⟨?_, below1n _ _ _⟩
      rw [← HP.out]
      simp [Md.permitted, usesList, usesOther, usesElem, usesMark, makes, hl, ho]
      omega

set_option maxHeartbeats 1000000 in
theorem perm_14 (h : SR w B g m v0 v1 v2 v3 ls) (hw : WF m) (list other elem mark : Int) (v : Vl) (hlen : m.len ≤ 4611686018427387904) (hcnt : m.cnt ≤ 1000000) (hs : ∀ l, (m.seq l).length ≤ 1000000) :
    Calls Try.prog 51 #[.pointer (some ⟨g, 0, none⟩), Cl.agg' ⟨14, list, other, elem, mark, v⟩] w fun r w' => r = .returned (.bool (m.permitted 500 ⟨14, list, other, elem, mark, v⟩)) ∧ Below w.heap.size w w' := by
  unfold Cl.agg'
  have U : ∀ W, Calls Try.prog 90 #[.int .i64 14] W fun r w' => r = .returned (.tuple #[.bool true, .bool false, .bool false, .bool false]) ∧ w' = W := fun W => uses_c 14 (by decide) (by decide) W
  have e0 : m.permitted 500 ⟨14, list, other, elem, mark, v⟩ = m.permitted 500 ⟨14, list, other, elem, mark, v⟩ := rfl
  generalize hP : m.permitted 500 ⟨14, list, other, elem, mark, v⟩ = P0 at *
  clear e0
  have HP := Lib.hid hP; have H := Lib.hid h; have HW := Lib.hid hw; have HS := Lib.hid hs
  clear hP h hw hs
  go_enter Try.func51, Try.ntmps51
  go_wp2_with fail
  refine (U _).mono ?_
  rintro r w' ⟨rfl, rfl⟩
  clear U
  go_wp2_with fail
  refine (list_c (H.out.alloc _) list hlen).mono ?_
  rintro r w' ⟨rfl, rfl⟩
  cases hl : m.list list
  · go_wp2
    go_ret
    exact ⟨by rw [← HP.out]; simp [Md.permitted, usesList, usesOther, usesElem, usesMark, makes, hl], below1 _ _⟩
  · skip
    have c3 := fun o => (H.out.alloc o).c3
    obtain ⟨a3, cap3, ev3⟩ := own_len H.out.r3
    simp only [ev3] at c3
    clear ev3
    go_wp2
    go_ret
    exact ⟨by rw [← HP.out]; simp [Md.permitted, usesList, usesOther, usesElem, usesMark, makes, hl], below1 _ _⟩

set_option maxHeartbeats 1000000 in
theorem perm_15 (h : SR w B g m v0 v1 v2 v3 ls) (hw : WF m) (list other elem mark : Int) (v : Vl) (hlen : m.len ≤ 4611686018427387904) (hcnt : m.cnt ≤ 1000000) (hs : ∀ l, (m.seq l).length ≤ 1000000) :
    Calls Try.prog 51 #[.pointer (some ⟨g, 0, none⟩), Cl.agg' ⟨15, list, other, elem, mark, v⟩] w fun r w' => r = .returned (.bool (m.permitted 500 ⟨15, list, other, elem, mark, v⟩)) ∧ Below w.heap.size w w' := by
  unfold Cl.agg'
  have U : ∀ W, Calls Try.prog 90 #[.int .i64 15] W fun r w' => r = .returned (.tuple #[.bool true, .bool false, .bool false, .bool false]) ∧ w' = W := fun W => uses_c 15 (by decide) (by decide) W
  have e0 : m.permitted 500 ⟨15, list, other, elem, mark, v⟩ = m.permitted 500 ⟨15, list, other, elem, mark, v⟩ := rfl
  generalize hP : m.permitted 500 ⟨15, list, other, elem, mark, v⟩ = P0 at *
  clear e0
  have HP := Lib.hid hP; have H := Lib.hid h; have HW := Lib.hid hw; have HS := Lib.hid hs
  clear hP h hw hs
  go_enter Try.func51, Try.ntmps51
  go_wp2_with fail
  refine (U _).mono ?_
  rintro r w' ⟨rfl, rfl⟩
  clear U
  go_wp2_with fail
  refine (list_c (H.out.alloc _) list hlen).mono ?_
  rintro r w' ⟨rfl, rfl⟩
  cases hl : m.list list
  · go_wp2
    go_ret
    exact ⟨by rw [← HP.out]; simp [Md.permitted, usesList, usesOther, usesElem, usesMark, makes, hl], below1 _ _⟩
  · skip
    have c3 := fun o => (H.out.alloc o).c3
    obtain ⟨a3, cap3, ev3⟩ := own_len H.out.r3
    simp only [ev3] at c3
    clear ev3
    go_wp2
    go_ret
    exact ⟨by rw [← HP.out]; simp [Md.permitted, usesList, usesOther, usesElem, usesMark, makes, hl], below1 _ _⟩

set_option maxHeartbeats 1000000 in
theorem perm_16 (h : SR w B g m v0 v1 v2 v3 ls) (hw : WF m) (list other elem mark : Int) (v : Vl) (hlen : m.len ≤ 4611686018427387904) (hcnt : m.cnt ≤ 1000000) (hs : ∀ l, (m.seq l).length ≤ 1000000) :
    Calls Try.prog 51 #[.pointer (some ⟨g, 0, none⟩), Cl.agg' ⟨16, list, other, elem, mark, v⟩] w fun r w' => r = .returned (.bool (m.permitted 500 ⟨16, list, other, elem, mark, v⟩)) ∧ Below w.heap.size w w' := by
  unfold Cl.agg'
  have U : ∀ W, Calls Try.prog 90 #[.int .i64 16] W fun r w' => r = .returned (.tuple #[.bool true, .bool false, .bool false, .bool false]) ∧ w' = W := fun W => uses_c 16 (by decide) (by decide) W
  have e0 : m.permitted 500 ⟨16, list, other, elem, mark, v⟩ = m.permitted 500 ⟨16, list, other, elem, mark, v⟩ := rfl
  generalize hP : m.permitted 500 ⟨16, list, other, elem, mark, v⟩ = P0 at *
  clear e0
  have HP := Lib.hid hP; have H := Lib.hid h; have HW := Lib.hid hw; have HS := Lib.hid hs
  clear hP h hw hs
  go_enter Try.func51, Try.ntmps51
  go_wp2_with fail
  refine (U _).mono ?_
  rintro r w' ⟨rfl, rfl⟩
  clear U
  go_wp2_with fail
  refine (list_c (H.out.alloc _) list hlen).mono ?_
  rintro r w' ⟨rfl, rfl⟩
  cases hl : m.list list
  · go_wp2
    go_ret
    exact ⟨by rw [← HP.out]; simp [Md.permitted, usesList, usesOther, usesElem, usesMark, makes, hl], below1 _ _⟩
  · skip
    have c3 := fun o => (H.out.alloc o).c3
    obtain ⟨a3, cap3, ev3⟩ := own_len H.out.r3
    simp only [ev3] at c3
    clear ev3
    go_wp2
    go_ret
    exact ⟨by rw [← HP.out]; simp [Md.permitted, usesList, usesOther, usesElem, usesMark, makes, hl], below1 _ _⟩

set_option maxHeartbeats 1000000 in
theorem perm_17 (h : SR w B g m v0 v1 v2 v3 ls) (hw : WF m) (list other elem mark : Int) (v : Vl) (hlen : m.len ≤ 4611686018427387904) (hcnt : m.cnt ≤ 1000000) (hs : ∀ l, (m.seq l).length ≤ 1000000) :
    Calls Try.prog 51 #[.pointer (some ⟨g, 0, none⟩), Cl.agg' ⟨17, list, other, elem, mark, v⟩] w fun r w' => r = .returned (.bool (m.permitted 500 ⟨17, list, other, elem, mark, v⟩)) ∧ Below w.heap.size w w' := by
  unfold Cl.agg'
  have U : ∀ W, Calls Try.prog 90 #[.int .i64 17] W fun r w' => r = .returned (.tuple #[.bool true, .bool false, .bool false, .bool false]) ∧ w' = W := fun W => uses_c 17 (by decide) (by decide) W
  have e0 : m.permitted 500 ⟨17, list, other, elem, mark, v⟩ = m.permitted 500 ⟨17, list, other, elem, mark, v⟩ := rfl
  generalize hP : m.permitted 500 ⟨17, list, other, elem, mark, v⟩ = P0 at *
  clear e0
  have HP := Lib.hid hP; have H := Lib.hid h; have HW := Lib.hid hw; have HS := Lib.hid hs
  clear hP h hw hs
  go_enter Try.func51, Try.ntmps51
  go_wp2_with fail
  refine (U _).mono ?_
  rintro r w' ⟨rfl, rfl⟩
  clear U
  go_wp2_with fail
  refine (list_c (H.out.alloc _) list hlen).mono ?_
  rintro r w' ⟨rfl, rfl⟩
  cases hl : m.list list
  · go_wp2
    go_ret
    exact ⟨by rw [← HP.out]; simp [Md.permitted, usesList, usesOther, usesElem, usesMark, makes, hl], below1 _ _⟩
  · skip
    have c3 := fun o => (H.out.alloc o).c3
    obtain ⟨a3, cap3, ev3⟩ := own_len H.out.r3
    simp only [ev3] at c3
    clear ev3
    go_wp2
    go_ret
    exact ⟨by rw [← HP.out]; simp [Md.permitted, usesList, usesOther, usesElem, usesMark, makes, hl], below1 _ _⟩

set_option maxHeartbeats 1000000 in
theorem perm_18 (h : SR w B g m v0 v1 v2 v3 ls) (hw : WF m) (list other elem mark : Int) (v : Vl) (hlen : m.len ≤ 4611686018427387904) (hcnt : m.cnt ≤ 1000000) (hs : ∀ l, (m.seq l).length ≤ 1000000) :
    Calls Try.prog 51 #[.pointer (some ⟨g, 0, none⟩), Cl.agg' ⟨18, list, other, elem, mark, v⟩] w fun r w' => r = .returned (.bool (m.permitted 500 ⟨18, list, other, elem, mark, v⟩)) ∧ Below w.heap.size w w' := by
  unfold Cl.agg'
  have U : ∀ W, Calls Try.prog 90 #[.int .i64 18] W fun r w' => r = .returned (.tuple #[.bool false, .bool false, .bool true, .bool false]) ∧ w' = W := fun W => uses_c 18 (by decide) (by decide) W
  have e0 : m.permitted 500 ⟨18, list, other, elem, mark, v⟩ = m.permitted 500 ⟨18, list, other, elem, mark, v⟩ := rfl
  generalize hP : m.permitted 500 ⟨18, list, other, elem, mark, v⟩ = P0 at *
  clear e0
  have HP := Lib.hid hP; have H := Lib.hid h; have HW := Lib.hid hw; have HS := Lib.hid hs
  clear hP h hw hs
  go_enter Try.func51, Try.ntmps51
  go_wp2_with fail
  refine (U _).mono ?_
  rintro r w' ⟨rfl, rfl⟩
  clear U
  go_wp2_with fail
  refine (element_c (H.out.alloc _) elem hlen).mono ?_
  rintro r w' ⟨rfl, rfl⟩
  cases he : m.elem elem
  · go_wp2
    go_ret
    exact ⟨by rw [← HP.out]; simp [Md.permitted, usesList, usesOther, usesElem, usesMark, makes, he], below1 _ _⟩
  · skip
    obtain ⟨ie, xie, rfl, lie, rie⟩ := elem_some he
    have zie := (HW.out.rlt ie xie rie).2
    go_wp2_with fail
    refine (stale_c (H.out.alloc _) (op := 18) (list := list) (other := other) (elem := ie) (mark := mark) (v := v) lie rie zie hlen (by omega)).mono ?_
    rintro r w1 ⟨rfl, hb1⟩
    have HB1 : Hid (Below w.heap.size w w1) := (below1 w _).trans (hb1.mono (by simp))
    have bx1 : ∀ j y, (#[Value.int .i64 18, .int .i64 list, .int .i64 other, .int .i64 ie, .int .i64 mark, .int .i64 v.kind, .int .i64 v.n, .string v.s])[j]? = some y → w1.cell? ⟨w.heap.size, j, none⟩ = some y := fun j y hy => by
      rw [hb1.cell (p := ⟨w.heap.size, j, none⟩) (by simp)]; exact cell_of_heap (heap_alloc_new w _) hy
    have y10 := bx1 0 _ rfl
    have y11 := bx1 1 _ rfl
    have y12 := bx1 2 _ rfl
    have y13 := bx1 3 _ rfl
    have y14 := bx1 4 _ rfl
    have y15 := bx1 5 _ rfl
    have y16 := bx1 6 _ rfl
    have y17 := bx1 7 _ rfl
    have c31 := (H.out.below HB1.out).c3
    obtain ⟨a3, cap3, ev3⟩ := own_len H.out.r3
    rw [ev3] at c31
    clear hb1
    clear bx1
    cases sie : m.stale ⟨18, list, other, ie, mark, v⟩ ie
    case' true =>
      go_wp2
      go_ret
      exact ⟨by rw [← HP.out]; simp [Md.permitted, usesList, usesOther, usesElem, usesMark, makes, he, sie], HB1.out⟩
    clear ev3
    go_wp2
    go_ret
    exact ⟨by rw [← HP.out]; simp [Md.permitted, usesList, usesOther, usesElem, usesMark, makes, he, sie], HB1.out⟩

set_option maxHeartbeats 1000000 in
theorem perm_19 (h : SR w B g m v0 v1 v2 v3 ls) (hw : WF m) (list other elem mark : Int) (v : Vl) (hlen : m.len ≤ 4611686018427387904) (hcnt : m.cnt ≤ 1000000) (hs : ∀ l, (m.seq l).length ≤ 1000000) :
    Calls Try.prog 51 #[.pointer (some ⟨g, 0, none⟩), Cl.agg' ⟨19, list, other, elem, mark, v⟩] w fun r w' => r = .returned (.bool (m.permitted 500 ⟨19, list, other, elem, mark, v⟩)) ∧ Below w.heap.size w w' := by
  unfold Cl.agg'
  have U : ∀ W, Calls Try.prog 90 #[.int .i64 19] W fun r w' => r = .returned (.tuple #[.bool false, .bool false, .bool true, .bool false]) ∧ w' = W := fun W => uses_c 19 (by decide) (by decide) W
  have e0 : m.permitted 500 ⟨19, list, other, elem, mark, v⟩ = m.permitted 500 ⟨19, list, other, elem, mark, v⟩ := rfl
  generalize hP : m.permitted 500 ⟨19, list, other, elem, mark, v⟩ = P0 at *
  clear e0
  have HP := Lib.hid hP; have H := Lib.hid h; have HW := Lib.hid hw; have HS := Lib.hid hs
  clear hP h hw hs
  go_enter Try.func51, Try.ntmps51
  go_wp2_with fail
  refine (U _).mono ?_
  rintro r w' ⟨rfl, rfl⟩
  clear U
  go_wp2_with fail
  refine (element_c (H.out.alloc _) elem hlen).mono ?_
  rintro r w' ⟨rfl, rfl⟩
  cases he : m.elem elem
  · go_wp2
    go_ret
    exact ⟨by rw [← HP.out]; simp [Md.permitted, usesList, usesOther, usesElem, usesMark, makes, he], below1 _ _⟩
  · skip
    obtain ⟨ie, xie, rfl, lie, rie⟩ := elem_some he
    have zie := (HW.out.rlt ie xie rie).2
    go_wp2_with fail
    refine (stale_c (H.out.alloc _) (op := 19) (list := list) (other := other) (elem := ie) (mark := mark) (v := v) lie rie zie hlen (by omega)).mono ?_
    rintro r w1 ⟨rfl, hb1⟩
    have HB1 : Hid (Below w.heap.size w w1) := (below1 w _).trans (hb1.mono (by simp))
    have bx1 : ∀ j y, (#[Value.int .i64 19, .int .i64 list, .int .i64 other, .int .i64 ie, .int .i64 mark, .int .i64 v.kind, .int .i64 v.n, .string v.s])[j]? = some y → w1.cell? ⟨w.heap.size, j, none⟩ = some y := fun j y hy => by
      rw [hb1.cell (p := ⟨w.heap.size, j, none⟩) (by simp)]; exact cell_of_heap (heap_alloc_new w _) hy
    have y10 := bx1 0 _ rfl
    have y11 := bx1 1 _ rfl
    have y12 := bx1 2 _ rfl
    have y13 := bx1 3 _ rfl
    have y14 := bx1 4 _ rfl
    have y15 := bx1 5 _ rfl
    have y16 := bx1 6 _ rfl
    have y17 := bx1 7 _ rfl
    have c31 := (H.out.below HB1.out).c3
    obtain ⟨a3, cap3, ev3⟩ := own_len H.out.r3
    rw [ev3] at c31
    clear hb1
    clear bx1
    cases sie : m.stale ⟨19, list, other, ie, mark, v⟩ ie
    case' true =>
      go_wp2
      go_ret
      exact ⟨by rw [← HP.out]; simp [Md.permitted, usesList, usesOther, usesElem, usesMark, makes, he, sie], HB1.out⟩
    clear ev3
    go_wp2
    go_ret
    exact ⟨by rw [← HP.out]; simp [Md.permitted, usesList, usesOther, usesElem, usesMark, makes, he, sie], HB1.out⟩

set_option maxHeartbeats 1000000 in
theorem perm_20 (h : SR w B g m v0 v1 v2 v3 ls) (hw : WF m) (list other elem mark : Int) (v : Vl) (hlen : m.len ≤ 4611686018427387904) (hcnt : m.cnt ≤ 1000000) (hs : ∀ l, (m.seq l).length ≤ 1000000) :
    Calls Try.prog 51 #[.pointer (some ⟨g, 0, none⟩), Cl.agg' ⟨20, list, other, elem, mark, v⟩] w fun r w' => r = .returned (.bool (m.permitted 500 ⟨20, list, other, elem, mark, v⟩)) ∧ Below w.heap.size w w' := by
  unfold Cl.agg'
  have U : ∀ W, Calls Try.prog 90 #[.int .i64 20] W fun r w' => r = .returned (.tuple #[.bool false, .bool false, .bool true, .bool false]) ∧ w' = W := fun W => uses_c 20 (by decide) (by decide) W
  have e0 : m.permitted 500 ⟨20, list, other, elem, mark, v⟩ = m.permitted 500 ⟨20, list, other, elem, mark, v⟩ := rfl
  generalize hP : m.permitted 500 ⟨20, list, other, elem, mark, v⟩ = P0 at *
  clear e0
  have HP := Lib.hid hP; have H := Lib.hid h; have HW := Lib.hid hw; have HS := Lib.hid hs
  clear hP h hw hs
  go_enter Try.func51, Try.ntmps51
  go_wp2_with fail
  refine (U _).mono ?_
  rintro r w' ⟨rfl, rfl⟩
  clear U
  go_wp2_with fail
  refine (element_c (H.out.alloc _) elem hlen).mono ?_
  rintro r w' ⟨rfl, rfl⟩
  cases he : m.elem elem
  · go_wp2
    go_ret
    exact ⟨by rw [← HP.out]; simp [Md.permitted, usesList, usesOther, usesElem, usesMark, makes, he], below1 _ _⟩
  · skip
    obtain ⟨ie, xie, rfl, lie, rie⟩ := elem_some he
    have zie := (HW.out.rlt ie xie rie).2
    go_wp2_with fail
    refine (stale_c (H.out.alloc _) (op := 20) (list := list) (other := other) (elem := ie) (mark := mark) (v := v) lie rie zie hlen (by omega)).mono ?_
    rintro r w1 ⟨rfl, hb1⟩
    have HB1 : Hid (Below w.heap.size w w1) := (below1 w _).trans (hb1.mono (by simp))
    have bx1 : ∀ j y, (#[Value.int .i64 20, .int .i64 list, .int .i64 other, .int .i64 ie, .int .i64 mark, .int .i64 v.kind, .int .i64 v.n, .string v.s])[j]? = some y → w1.cell? ⟨w.heap.size, j, none⟩ = some y := fun j y hy => by
      rw [hb1.cell (p := ⟨w.heap.size, j, none⟩) (by simp)]; exact cell_of_heap (heap_alloc_new w _) hy
    have y10 := bx1 0 _ rfl
    have y11 := bx1 1 _ rfl
    have y12 := bx1 2 _ rfl
    have y13 := bx1 3 _ rfl
    have y14 := bx1 4 _ rfl
    have y15 := bx1 5 _ rfl
    have y16 := bx1 6 _ rfl
    have y17 := bx1 7 _ rfl
    have c31 := (H.out.below HB1.out).c3
    obtain ⟨a3, cap3, ev3⟩ := own_len H.out.r3
    rw [ev3] at c31
    clear hb1
    clear bx1
    cases sie : m.stale ⟨20, list, other, ie, mark, v⟩ ie
    case' true =>
      go_wp2
      go_ret
      exact ⟨by rw [← HP.out]; simp [Md.permitted, usesList, usesOther, usesElem, usesMark, makes, he, sie], HB1.out⟩
    clear ev3
    go_wp2
    go_ret
    exact ⟨by rw [← HP.out]; simp [Md.permitted, usesList, usesOther, usesElem, usesMark, makes, he, sie], HB1.out⟩

set_option maxHeartbeats 1000000 in
theorem perm_21 (h : SR w B g m v0 v1 v2 v3 ls) (hw : WF m) (list other elem mark : Int) (v : Vl) (hlen : m.len ≤ 4611686018427387904) (hcnt : m.cnt ≤ 1000000) (hs : ∀ l, (m.seq l).length ≤ 1000000) :
    Calls Try.prog 51 #[.pointer (some ⟨g, 0, none⟩), Cl.agg' ⟨21, list, other, elem, mark, v⟩] w fun r w' => r = .returned (.bool (m.permitted 500 ⟨21, list, other, elem, mark, v⟩)) ∧ Below w.heap.size w w' := by
  unfold Cl.agg'
  have U : ∀ W, Calls Try.prog 90 #[.int .i64 21] W fun r w' => r = .returned (.tuple #[.bool false, .bool false, .bool true, .bool false]) ∧ w' = W := fun W => uses_c 21 (by decide) (by decide) W
  have e0 : m.permitted 500 ⟨21, list, other, elem, mark, v⟩ = m.permitted 500 ⟨21, list, other, elem, mark, v⟩ := rfl
  generalize hP : m.permitted 500 ⟨21, list, other, elem, mark, v⟩ = P0 at *
  clear e0
  have HP := Lib.hid hP; have H := Lib.hid h; have HW := Lib.hid hw; have HS := Lib.hid hs
  clear hP h hw hs
  go_enter Try.func51, Try.ntmps51
  go_wp2_with fail
  refine (U _).mono ?_
  rintro r w' ⟨rfl, rfl⟩
  clear U
  go_wp2_with fail
  refine (element_c (H.out.alloc _) elem hlen).mono ?_
  rintro r w' ⟨rfl, rfl⟩
  cases he : m.elem elem
  · go_wp2
    go_ret
    exact ⟨by rw [← HP.out]; simp [Md.permitted, usesList, usesOther, usesElem, usesMark, makes, he], below1 _ _⟩
  · skip
    obtain ⟨ie, xie, rfl, lie, rie⟩ := elem_some he
    have zie := (HW.out.rlt ie xie rie).2
    go_wp2_with fail
    refine (stale_c (H.out.alloc _) (op := 21) (list := list) (other := other) (elem := ie) (mark := mark) (v := v) lie rie zie hlen (by omega)).mono ?_
    rintro r w1 ⟨rfl, hb1⟩
    have HB1 : Hid (Below w.heap.size w w1) := (below1 w _).trans (hb1.mono (by simp))
    have bx1 : ∀ j y, (#[Value.int .i64 21, .int .i64 list, .int .i64 other, .int .i64 ie, .int .i64 mark, .int .i64 v.kind, .int .i64 v.n, .string v.s])[j]? = some y → w1.cell? ⟨w.heap.size, j, none⟩ = some y := fun j y hy => by
      rw [hb1.cell (p := ⟨w.heap.size, j, none⟩) (by simp)]; exact cell_of_heap (heap_alloc_new w _) hy
    have y10 := bx1 0 _ rfl
    have y11 := bx1 1 _ rfl
    have y12 := bx1 2 _ rfl
    have y13 := bx1 3 _ rfl
    have y14 := bx1 4 _ rfl
    have y15 := bx1 5 _ rfl
    have y16 := bx1 6 _ rfl
    have y17 := bx1 7 _ rfl
    have c31 := (H.out.below HB1.out).c3
    obtain ⟨a3, cap3, ev3⟩ := own_len H.out.r3
    rw [ev3] at c31
    clear hb1
    clear bx1
    cases sie : m.stale ⟨21, list, other, ie, mark, v⟩ ie
    case' true =>
      go_wp2
      go_ret
      exact ⟨by rw [← HP.out]; simp [Md.permitted, usesList, usesOther, usesElem, usesMark, makes, he, sie], HB1.out⟩
    clear ev3
    go_wp2
    go_ret
    exact ⟨by rw [← HP.out]; simp [Md.permitted, usesList, usesOther, usesElem, usesMark, makes, he, sie], HB1.out⟩

theorem permitted_c (h : SR w B g m v0 v1 v2 v3 ls) (hw : WF m) (c : Cl) (hlen : m.len ≤ 4611686018427387904) (hcnt : m.cnt ≤ 1000000) (hs : ∀ l, (m.seq l).length ≤ 1000000) :
    Calls Try.prog 51 #[.pointer (some ⟨g, 0, none⟩), c.agg'] w fun r w' => r = .returned (.bool (m.permitted 500 c)) ∧ Below w.heap.size w w' := by
  obtain ⟨op, list, other, elem, mark, v⟩ := c
  by_cases h0 : op < 0
  · exact perm_out w m (.inl h0)
  by_cases h1 : 22 ≤ op
  · exact perm_out w m (.inr h1)
  rcases op_cases (op := op) (by omega) (by omega) with rfl | rfl | rfl | rfl | rfl | rfl | rfl | rfl | rfl | rfl | rfl | rfl | rfl | rfl | rfl | rfl | rfl | rfl | rfl | rfl | rfl | rfl
  · exact perm_0 h hw list other elem mark v hlen hcnt hs
  · exact perm_1 h hw list other elem mark v hlen hcnt hs
  · exact perm_2 h hw list other elem mark v hlen hcnt hs
  · exact perm_3 h hw list other elem mark v hlen hcnt hs
  · exact perm_4 h hw list other elem mark v hlen hcnt hs
  · exact perm_5 h hw list other elem mark v hlen hcnt hs
  · exact perm_6 h hw list other elem mark v hlen hcnt hs
  · exact perm_7 h hw list other elem mark v hlen hcnt hs
  · exact perm_8 h hw list other elem mark v hlen hcnt hs
  · exact perm_9 h hw list other elem mark v hlen hcnt hs
  · exact perm_10 h hw list other elem mark v hlen hcnt hs
  · exact perm_11 h hw list other elem mark v hlen hcnt hs
  · exact perm_12 h hw list other elem mark v hlen hcnt hs
  · exact perm_13 h hw list other elem mark v hlen hcnt hs
  · exact perm_14 h hw list other elem mark v hlen hcnt hs
  · exact perm_15 h hw list other elem mark v hlen hcnt hs
  · exact perm_16 h hw list other elem mark v hlen hcnt hs
  · exact perm_17 h hw list other elem mark v hlen hcnt hs
  · exact perm_18 h hw list other elem mark v hlen hcnt hs
  · exact perm_19 h hw list other elem mark v hlen hcnt hs
  · exact perm_20 h hw list other elem mark v hlen hcnt hs
  · exact perm_21 h hw list other elem mark v hlen hcnt hs
end
end Bead
end Go.Proofs.Ytidnmanljdadaaa
