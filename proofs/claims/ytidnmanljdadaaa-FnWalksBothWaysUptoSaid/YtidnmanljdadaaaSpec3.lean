/- The reference's functions that only read, continued: beside, stale, open. -/
import Derived.Test.YtidnmanljdadaaaSpec2
set_option linter.all false
namespace Go.Proofs.Ytidnmanljdadaaa
open Go.RowKit
namespace Bead
set_option maxRecDepth 100000

theorem idx_mem {s : List Nat} {e : Nat} (h : e ∈ s) : idx s e = (s.idxOf e : Nat) := if_pos h
theorem idx_not {s : List Nat} {e : Nat} (h : e ∉ s) : idx s e = -1 := if_neg h

section
variable {w : World} {B g : Nat} {m : Md} {v0 v1 v2 v3 : Value} {ls : Nat → Value}

theorem beside_next (h : SR w B g m v0 v1 v2 v3 ls) (hw : WF m) {e : Nat} (he : e < m.cnt) (hlen : m.len ≤ 4611686018427387904) (hs : ∀ l, (m.seq l).length ≤ 4611686018427387904) :
    Calls Try.prog 102 #[.pointer (some ⟨g, 0, none⟩), .int .i64 e, .int .i64 1] w fun r w' => r = .returned (.int .i64 (optI (m.next e))) ∧ w' = w := by
  have c3 := h.c3
  obtain ⟨b3, cap3, rfl, ce, _⟩ := h.at3 he
  have cin := ce 3 _ rfl
  cases hin : m.inn e with
  | none =>
    rw [hin, optI_none] at cin
    have e1 : m.next e = none := by simp [Md.next, hin]
    rw [e1]
    clear h hw ce e1 hin hs
    go_enter Try.func102, Try.ntmps102
    go_wp2
    go_ret
    exact ⟨rfl, rfl⟩
  | some l =>
    rw [hin, optI_some] at cin
    have hm : e ∈ m.seq l := (hw.mem l e).2 hin
    have hll : l < m.len := hw.isl l (hw.isL_of_mem hm)
    have c1 := h.c1
    obtain ⟨b1, cap1, rfl, c, _⟩ := h.at1 hll
    obtain ⟨b', cp, hx, hc⟩ := (h.ll l hll).get (List.ne_nil_of_mem hm)
    rw [hx] at c
    have AT := Lib.hid (at_c h hll e hlen (hs l) (hw.nodup l))
    have hk : (m.seq l).idxOf e < (m.seq l).length := List.idxOf_lt_length_of_mem hm
    have hsl := hs l
    rw [idx_mem hm] at AT
    have d1 : ∀ n : Nat, decide (((n : Nat) : Int) < 0) = false := fun n => by simp <;> omega
    have dl := d1 l
    by_cases hq : (m.seq l).idxOf e + 1 < (m.seq l).length
    · have e1 : m.next e = some (m.seq l)[(m.seq l).idxOf e + 1] := by simp [Md.next, hin, hq]
      rw [e1, optI_some]
      have cj := hc ((m.seq l).idxOf e + 1) _ (List.getElem?_eq_getElem hq)
      generalize (m.seq l)[(m.seq l).idxOf e + 1] = y at *
      generalize (m.seq l).idxOf e = k at *
      generalize (m.seq l).length = n at *
      clear h hw ce e1 hin hs hm hc hx d1
      go_enter Try.func102, Try.ntmps102
      go_wp2_with fail
      refine AT.out.mono ?_
      rintro r w' ⟨rfl, rfl⟩
      go_wp2
      go_ret
      exact ⟨rfl, rfl⟩
    · have e1 : m.next e = none := by simp [Md.next, hin]; omega
      rw [e1, optI_none]
      generalize (m.seq l).idxOf e = k at *
      generalize (m.seq l).length = n at *
      clear h hw ce e1 hin hs hm hc hx d1
      go_enter Try.func102, Try.ntmps102
      go_wp2_with fail
      refine AT.out.mono ?_
      rintro r w' ⟨rfl, rfl⟩
      go_wp2
      go_ret
      exact ⟨rfl, rfl⟩

theorem beside_prev (h : SR w B g m v0 v1 v2 v3 ls) (hw : WF m) {e : Nat} (he : e < m.cnt) (hlen : m.len ≤ 4611686018427387904) (hs : ∀ l, (m.seq l).length ≤ 4611686018427387904) :
    Calls Try.prog 102 #[.pointer (some ⟨g, 0, none⟩), .int .i64 e, .int .i64 (-1)] w fun r w' => r = .returned (.int .i64 (optI (m.prev e))) ∧ w' = w := by
  have c3 := h.c3
  obtain ⟨b3, cap3, rfl, ce, _⟩ := h.at3 he
  have cin := ce 3 _ rfl
  cases hin : m.inn e with
  | none =>
    rw [hin, optI_none] at cin
    have e1 : m.prev e = none := by simp [Md.prev, hin]
    rw [e1]
    clear h hw ce e1 hin hs
    go_enter Try.func102, Try.ntmps102
    go_wp2
    go_ret
    exact ⟨rfl, rfl⟩
  | some l =>
    rw [hin, optI_some] at cin
    have hm : e ∈ m.seq l := (hw.mem l e).2 hin
    have hll : l < m.len := hw.isl l (hw.isL_of_mem hm)
    have c1 := h.c1
    obtain ⟨b1, cap1, rfl, c, _⟩ := h.at1 hll
    obtain ⟨b', cp, hx, hc⟩ := (h.ll l hll).get (List.ne_nil_of_mem hm)
    rw [hx] at c
    have AT := Lib.hid (at_c h hll e hlen (hs l) (hw.nodup l))
    have hk : (m.seq l).idxOf e < (m.seq l).length := List.idxOf_lt_length_of_mem hm
    have hsl := hs l
    rw [idx_mem hm] at AT
    have d1 : ∀ n : Nat, decide (((n : Nat) : Int) < 0) = false := fun n => by simp <;> omega
    have dl := d1 l
    by_cases hq : 0 < (m.seq l).idxOf e
    · have hq2 : (m.seq l).idxOf e - 1 < (m.seq l).length := by omega
      have e1 : m.prev e = some (m.seq l)[(m.seq l).idxOf e - 1] := by simp only [Md.prev, hin]; rw [if_neg (by omega), List.getElem?_eq_getElem hq2]
      rw [e1, optI_some]
      have cj := hc ((m.seq l).idxOf e - 1) _ (List.getElem?_eq_getElem hq2)
      generalize (m.seq l)[(m.seq l).idxOf e - 1] = y at *
      generalize (m.seq l).idxOf e = k at *
      generalize (m.seq l).length = n at *
      clear h hw ce e1 hin hs hm hc hx d1
      obtain ⟨k, rfl⟩ : ∃ k', k = k' + 1 := ⟨k - 1, by omega⟩
      simp only [Nat.add_sub_cancel] at cj
      rw [show k = (((k : Nat) : Int) + 1 + -1).toNat by omega] at cj
      go_enter Try.func102, Try.ntmps102
      go_wp2_with fail
      refine AT.out.mono ?_
      rintro r w' ⟨rfl, rfl⟩
      go_wp2
      go_ret
      exact ⟨rfl, rfl⟩
    · have e1 : m.prev e = none := by simp only [Md.prev, hin]; rw [if_pos (by omega)]
      rw [e1, optI_none]
      have hk0 : (m.seq l).idxOf e = 0 := by omega
      rw [hk0] at AT
      generalize (m.seq l).length = n at *
      clear h hw ce e1 hin hs hm hc hx d1 hk0 hq hk
      go_enter Try.func102, Try.ntmps102
      go_wp2_with fail
      refine AT.out.mono ?_
      rintro r w' ⟨rfl, rfl⟩
      go_wp2
      go_ret
      exact ⟨rfl, rfl⟩
end
end Bead
end Go.Proofs.Ytidnmanljdadaaa
