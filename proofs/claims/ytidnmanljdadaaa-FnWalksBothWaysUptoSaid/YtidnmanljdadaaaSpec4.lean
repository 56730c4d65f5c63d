/- The reference's functions that only read, continued: stale, open. -/
import Derived.Test.YtidnmanljdadaaaSpec3
set_option linter.all false
namespace Go.Proofs.Ytidnmanljdadaaa
open Go.RowKit
namespace Bead
set_option maxRecDepth 100000

theorem Below.drewN' {B : Nat} {a w : World} (h : Below B a w) (n : Nat) : Below B a (w.drewN n) := ⟨h.os, h.tape, h.output, h.size, h.block⟩
theorem below1n (w : World) (o : Obj) (n : Nat) : Below w.heap.size w ((w.alloc o).drewN n) := Below.drewN' (below1 w o) n

def Cl.agg' (c : Cl) : Value := .agg #[.int .i64 c.op, .int .i64 c.list, .int .i64 c.other, .int .i64 c.elem, .int .i64 c.mark, .int .i64 c.v.kind, .int .i64 c.v.n, .string c.v.s]

section
variable {w : World} {B g : Nat} {m : Md} {v0 v1 v2 v3 : Value} {ls : Nat → Value}

set_option maxHeartbeats 1000000 in
theorem stale_c (h : SR w B g m v0 v1 v2 v3 ls) {op list other elem mark : Int} {v : Vl} {i e : Nat} (hi : i < m.len) (hr : m.ret i = some e) (he : e < m.cnt) (hlen : m.len ≤ 4611686018427387904) (hcnt : m.cnt ≤ 4611686018427387904) :
    Calls Try.prog 93 #[.pointer (some ⟨g, 0, none⟩), Cl.agg' ⟨op, list, other, elem, mark, v⟩, .int .i64 i] w fun r w' => r = .returned (.bool (m.stale ⟨op, list, other, elem, mark, v⟩ i)) ∧ Below w.heap.size w w' := by
  have h1 := fun o => (h.alloc o).c2
  have h2 := fun o => (h.alloc o).c3
  have h3 := fun o o' => ((h.alloc o).alloc o').c2
  have h4 := fun o o' => ((h.alloc o).alloc o').c3
  obtain ⟨b2, cap2, rfl, _, _⟩ := h.at2 hi
  obtain ⟨b3, cap3, rfl, _, _⟩ := h.at3 he
  have g1 : ∀ o, (w.alloc o).cell? ⟨b2, i, none⟩ = some (.int .i64 (e : Nat)) := fun o => by
    obtain ⟨b, cap, q, c, _⟩ := (h.alloc o).at2 hi; simp at q; obtain ⟨rfl, _⟩ := q; rw [c, hr]; rfl
  have g2 : ∀ o o', ((w.alloc o).alloc o').cell? ⟨b2, i, none⟩ = some (.int .i64 (e : Nat)) := fun o o' => by
    obtain ⟨b, cap, q, c, _⟩ := ((h.alloc o).alloc o').at2 hi; simp at q; obtain ⟨rfl, _⟩ := q; rw [c, hr]; rfl
  have k1 : ∀ o j y, (ecells m e)[j]? = some y → (w.alloc o).cell? ⟨b3, e * 6 + j, none⟩ = some y := fun o => by
    obtain ⟨b, cap, q, c, _⟩ := (h.alloc o).at3 he; simp at q; obtain ⟨rfl, _⟩ := q; exact c
  have k2 : ∀ o o' j y, (ecells m e)[j]? = some y → ((w.alloc o).alloc o').cell? ⟨b3, e * 6 + j, none⟩ = some y := fun o o' => by
    obtain ⟨b, cap, q, c, _⟩ := ((h.alloc o).alloc o').at3 he; simp at q; obtain ⟨rfl, _⟩ := q; exact c
  have a0 := fun o => k1 o 0 _ rfl; have a1 := fun o => k1 o 1 _ rfl; have a2 := fun o => k1 o 2 _ rfl; have a3 := fun o => k1 o 3 _ rfl; have a4 := fun o => k1 o 4 _ rfl; have a5 := fun o => k1 o 5 _ rfl
  have z0 := fun o o' => k2 o o' 0 _ rfl; have z1 := fun o o' => k2 o o' 1 _ rfl; have z2 := fun o o' => k2 o o' 2 _ rfl; have z3 := fun o o' => k2 o o' 3 _ rfl; have z4 := fun o o' => k2 o o' 4 _ rfl; have z5 := fun o o' => k2 o o' 5 _ rfl
  simp only [Nat.add_zero] at a0 z0
  unfold Cl.agg'
  clear k1 k2 h
  cases hc : m.clr e with
  | none =>
    have e1 : m.stale ⟨op, list, other, elem, mark, v⟩ i = false := by simp [Md.stale, hr, hc]
    rw [e1]
    simp only [hc, optI_none] at a4 z4
    clear e1 hc hr
    go_enter Try.func93, Try.ntmps93
    go_wp2
    go_region
    all_goals
      go_wp2
      go_ret
      exact ⟨rfl, by first | exact (below2 _ _ _).drew | exact below2 _ _ _⟩
  | some l =>
    simp only [hc, optI_some] at a4 z4
    have dl : decide (((l : Nat) : Int) < 0) = false := by simp <;> omega
    by_cases e20 : op = 20
    · subst e20
      have e1 : m.stale ⟨20, list, other, elem, mark, v⟩ i = false := by simp [Md.stale, hr, hc]
      rw [e1]
      clear e1 hc hr
      go_enter Try.func93, Try.ntmps93
      go_wp2
      go_region
      all_goals
        go_wp2
        go_ret
        exact ⟨rfl, by first | exact (below2 _ _ _).drew | exact below2 _ _ _⟩
    by_cases e21 : op = 21
    · subst e21
      have e1 : m.stale ⟨21, list, other, elem, mark, v⟩ i = false := by simp [Md.stale, hr, hc]
      rw [e1]
      clear e1 hc hr
      go_enter Try.func93, Try.ntmps93
      go_wp2
      go_region
      all_goals
        go_wp2
        go_ret
        exact ⟨rfl, by first | exact (below2 _ _ _).drew | exact below2 _ _ _⟩
    by_cases e18 : op = 18
    · subst e18
      have e1 : m.stale ⟨18, list, other, elem, mark, v⟩ i = true := by simp [Md.stale, hr, hc]
      rw [e1]
      clear e1 hc hr
      go_enter Try.func93, Try.ntmps93
      go_wp2
      go_region
      all_goals
        go_wp2
        go_ret
        exact ⟨rfl, by first | exact (below2 _ _ _).drew | exact below2 _ _ _⟩
    by_cases e19 : op = 19
    · subst e19
      have e1 : m.stale ⟨19, list, other, elem, mark, v⟩ i = true := by simp [Md.stale, hr, hc]
      rw [e1]
      clear e1 hc hr
      go_enter Try.func93, Try.ntmps93
      go_wp2
      go_region
      all_goals
        go_wp2
        go_ret
        exact ⟨rfl, by first | exact (below2 _ _ _).drew | exact below2 _ _ _⟩
    have q20 : (op == 20) = false := by simpa using e20
    have q21 : (op == 21) = false := by simpa using e21
    have q18 : (op == 18) = false := by simpa using e18
    have q19 : (op == 19) = false := by simpa using e19
    by_cases el : ((l : Nat) : Int) = list
    · subst el
      have e1 : m.stale ⟨op, (l : Nat), other, elem, mark, v⟩ i = true := by simp [Md.stale, hr, hc, e18, e19, e20, e21]
      rw [e1]
      clear e1 hc hr
      go_enter Try.func93, Try.ntmps93
      go_wp2
      go_region
      all_goals
        go_wp2
        go_ret
        exact ⟨rfl, by first | exact (below2 _ _ _).drew | exact below2 _ _ _⟩
    · have ql : (((l : Nat) : Int) == list) = false := by simpa using el
      have e1 : m.stale ⟨op, list, other, elem, mark, v⟩ i = false := by simp [Md.stale, hr, hc, e18, e19, e20, e21, el]
      rw [e1]
      clear e1 hc hr
      go_enter Try.func93, Try.ntmps93
      go_wp2
      go_region
      all_goals
        go_wp2
        go_ret
        exact ⟨rfl, by first | exact (below2 _ _ _).drew | exact below2 _ _ _⟩

/-- What open_c needs of the state and the call. -/
theorem open_mark (h : SR w B g m v0 v1 v2 v3 ls) (hw : WF m) {op other elem : Int} {v : Vl} {l i e : Nat} (hop : op = 5 ∨ op = 6) (hl : l < m.len) (hi : i < m.len) (hr : m.ret i = some e) (hlen : m.len ≤ 4611686018427387904) (hs : (m.seq l).length ≤ 4611686018427387904) :
    Calls Try.prog 52 #[.pointer (some ⟨g, 0, none⟩), Cl.agg' ⟨op, l, other, elem, i, v⟩] w fun r w' => r = .returned (.bool (m.opened ⟨op, l, other, elem, i, v⟩)) ∧ Below w.heap.size w w' := by
  have h1 := fun o => (h.alloc o).c2
  obtain ⟨b2, cap2, rfl, _, _⟩ := h.at2 hi
  have g1 : ∀ o, (w.alloc o).cell? ⟨b2, i, none⟩ = some (.int .i64 (e : Nat)) := fun o => by
    obtain ⟨b, cap, q, c, _⟩ := (h.alloc o).at2 hi; simp at q; obtain ⟨rfl, _⟩ := q; rw [c, hr]; rfl
  have AT := fun o n => Lib.hid (at_c ((h.alloc o).drewN n) hl e hlen hs (hw.nodup l))
  have e1 : m.opened ⟨op, l, other, elem, i, v⟩ = decide (e ∉ m.seq l) := by simp [Md.opened, hop, hr]
  rw [e1]
  have e2 : decide (idx (m.seq l) e < 0) = decide (e ∉ m.seq l) := by
    refine decide_eq_decide.2 ?_
    unfold idx; split <;> simp_all
  rw [← e2]
  unfold Cl.agg'
  clear h hw e1 e2 hr hs
  generalize idx (m.seq l) e = k at *
  rcases hop with rfl | rfl
  all_goals
    go_enter Try.func52, Try.ntmps52
    go_wp2
    go_quiet ((go_at_call 94; exact Calls.quiet_of_same (AT _ _).out))
    go_wp2
    go_ret
    exact ⟨rfl, below1n _ _ _⟩

theorem open_elem (h : SR w B g m v0 v1 v2 v3 ls) {op list other mark : Int} {v : Vl} {i e : Nat} (hop : op = 18 ∨ op = 19) (hi : i < m.len) (hr : m.ret i = some e) (he : e < m.cnt) (hlen : m.len ≤ 4611686018427387904) (hcnt : m.cnt ≤ 4611686018427387904) :
    Calls Try.prog 52 #[.pointer (some ⟨g, 0, none⟩), Cl.agg' ⟨op, list, other, i, mark, v⟩] w fun r w' => r = .returned (.bool (m.opened ⟨op, list, other, i, mark, v⟩)) ∧ Below w.heap.size w w' := by
  have h1 := fun o => (h.alloc o).c2
  have h2 := fun o => (h.alloc o).c3
  obtain ⟨b2, cap2, rfl, _, _⟩ := h.at2 hi
  obtain ⟨b3, cap3, rfl, _, _⟩ := h.at3 he
  have g1 : ∀ o, (w.alloc o).cell? ⟨b2, i, none⟩ = some (.int .i64 (e : Nat)) := fun o => by
    obtain ⟨b, cap, q, c, _⟩ := (h.alloc o).at2 hi; simp at q; obtain ⟨rfl, _⟩ := q; rw [c, hr]; rfl
  have k1 : ∀ o, (w.alloc o).cell? ⟨b3, e * 6 + 3, none⟩ = some (.int .i64 (optI (m.inn e))) := fun o => by
    obtain ⟨b, cap, q, c, _⟩ := (h.alloc o).at3 he; simp at q; obtain ⟨rfl, _⟩ := q; exact c 3 _ rfl
  have e1 : m.opened ⟨op, list, other, i, mark, v⟩ = decide (optI (m.inn e) < 0) := by
    have : (m.inn e).isNone = decide (optI (m.inn e) < 0) := by
      cases m.inn e with
      | none => rfl
      | some l => exact (decide_eq_false (by simp only [optI]; omega)).symm
    rcases hop with rfl | rfl <;> simp [Md.opened, hr, this]
  rw [e1]
  unfold Cl.agg'
  clear h e1 hr
  generalize optI (m.inn e) = k at *
  rcases hop with rfl | rfl
  all_goals
    go_enter Try.func52, Try.ntmps52
    go_wp2
    go_quiet (fail)
    go_wp2
    go_ret
    exact ⟨rfl, below1n _ _ _⟩

theorem open_else (w : World) (m : Md) {g : Nat} {c : Cl} (h5 : ¬ c.op = 5) (h6 : ¬ c.op = 6) (h18 : ¬ c.op = 18) (h19 : ¬ c.op = 19) :
    Calls Try.prog 52 #[.pointer (some ⟨g, 0, none⟩), c.agg'] w fun r w' => r = .returned (.bool (m.opened c)) ∧ Below w.heap.size w w' := by
  have e1 : m.opened c = false := by simp [Md.opened, h5, h6, h18, h19]
  rw [e1]
  obtain ⟨op, list, other, elem, mark, v⟩ := c
  simp only at h5 h6 h18 h19
  have q5 : (op == 5) = false := by simpa using h5
  have q6 : (op == 6) = false := by simpa using h6
  have q18 : (op == 18) = false := by simpa using h18
  have q19 : (op == 19) = false := by simpa using h19
  unfold Cl.agg'
  clear e1
  go_enter Try.func52, Try.ntmps52
  go_wp2
  go_ret
  exact ⟨rfl, below1 _ _⟩
end
end Bead
end Go.Proofs.Ytidnmanljdadaaa
