/- The reference's method move. -/
import Derived.Test.YtidnmanljdadaaaSpec9
import Derived.StillTailTactics
set_option linter.all false
namespace Go.Proofs.Ytidnmanljdadaaa
open Go.RowKit
namespace Bead
set_option maxRecDepth 100000

set_option maxHeartbeats 1000000 in
theorem move_no {w : World} {B g : Nat} {F : Nat → Prop} {m : Md} (h : ST w B g F m) (hw : WF m) {op other mark : Int} {v : Vl} {l n e : Nat} (hl : m.isL l = true) (hn : n < m.len) (hr : m.ret n = some e) (hlen : m.len ≤ 4611686018427387904) (hsz : (m.seq l).length ≤ 1000000) (hm : e ∉ m.seq l) :
    Calls Try.prog 99 #[.pointer (some ⟨g, 0, none⟩), Cl.agg' ⟨op, l, other, n, mark, v⟩] w fun r w' => r = .returned (.tuple #[]) ∧ SP w w' B g F (m.move ⟨op, l, other, n, mark, v⟩) := by
  have hll := hw.isl l hl
  have F0 := Fr.start h ⟨op, l, other, n, mark, v⟩
  obtain ⟨v0, v1, v2, v3, ls, hs⟩ := F0.sp.sr
  have c2 := hs.c2
  obtain ⟨b2, cap2, rfl, g2, _⟩ := hs.at2 hn
  rw [hr, optI_some] at g2
  have AT := fun n => Lib.hid (at_c (hs.drewN n) hll e hlen (by omega) (hw.nodup l))
  have FA := Lib.hid F0
  have HW := Lib.hid hw
  unfold Cl.agg'
  simp only [Cl.arr] at c2 g2 AT
  rw [idx_not hm] at AT
  have e1 : m.move ⟨op, l, other, n, mark, v⟩ = m := by simp [Md.move, hr, hm]
  rw [e1]
  clear h hw hs F0 e1 hr hm
  go_enter Try.func99, Try.ntmps99
  go_wp2
  go_quiet (fail)
  go_wp2_with fail
  refine (AT _).out.mono ?_
  rintro r w1 ⟨rfl, rfl⟩
  go_wp2
  first | go_end0 | (refine bodyPost_ret (results_none rfl _ _ _) rfl ?_)
  exact ⟨rfl, (FA.out.drewN _).sp⟩

set_option maxHeartbeats 1000000 in
theorem move_7 {w : World} {B g : Nat} {F : Nat → Prop} {m : Md} (h : ST w B g F m) (hw : WF m) {other mark : Int} {v : Vl} {l n e : Nat} (hl : m.isL l = true) (hn : n < m.len) (hr : m.ret n = some e) (hlen : m.len ≤ 4611686018427387904) (hsz : (m.seq l).length ≤ 1000000) (hm : e ∈ m.seq l) :
    Calls Try.prog 99 #[.pointer (some ⟨g, 0, none⟩), Cl.agg' ⟨7, l, other, n, mark, v⟩] w fun r w' => r = .returned (.tuple #[]) ∧ SP w w' B g F (m.move ⟨7, l, other, n, mark, v⟩) := by
  have hll := hw.isl l hl
  have F0 := Fr.start h ⟨7, l, other, n, mark, v⟩
  obtain ⟨v0, v1, v2, v3, ls, hs⟩ := F0.sp.sr
  have c2 := hs.c2
  obtain ⟨b2, cap2, rfl, g2, _⟩ := hs.at2 hn
  rw [hr, optI_some] at g2
  have AT := fun n => Lib.hid (at_c (hs.drewN n) hll e hlen (by omega) (hw.nodup l))
  have FA := Lib.hid F0
  have HW := Lib.hid hw
  unfold Cl.agg'
  simp only [Cl.arr] at c2 g2 AT
  rw [idx_mem hm] at AT
  have dk : ∀ j : Nat, decide (((j : Nat) : Int) < 0) = false := fun j => by simp <;> omega
  have dk := dk ((m.seq l).idxOf e)
  have e1 : m.move ⟨7, l, other, n, mark, v⟩ = (m.take l e).put l 0 e := by simp [Md.move, Md.moveTo, hr, hm]
  rw [e1]
  clear h hw hs F0 e1 hr hm
  go_enter Try.func99, Try.ntmps99
  go_wp2
  go_quiet (fail)
  go_wp2_with fail
  refine (AT _).out.mono ?_
  rintro r w1 ⟨rfl, rfl⟩
  go_wp2_with fail
  refine (take_c (l := l) (e := e) (FA.out.drewN _).sp.st hll hlen hsz).mono ?_
  rintro r w1 ⟨rfl, S1⟩
  have F1 := Lib.hid ((FA.out.drewN _).next S1)
  have y0 := F1.out.cell (j := 0) rfl
  have y1 := F1.out.cell (j := 1) rfl
  clear S1
  go_wp2_with fail
  refine (put_c (l := l) (k := 0) (e := e) F1.out.sp.st hll (Nat.zero_le _) hlen ?_).mono ?_
  · exact Nat.le_trans (by rw [take_seq]; exact without_le _ _) hsz
  rintro r w2 ⟨rfl, S2⟩
  have F2 := Lib.hid (F1.out.next S2)
  clear S2
  go_wp2
  first | go_end0 | (refine bodyPost_ret (results_none rfl _ _ _) rfl ?_)
  exact ⟨rfl, F2.out.sp⟩

set_option maxHeartbeats 1000000 in
theorem move_8 {w : World} {B g : Nat} {F : Nat → Prop} {m : Md} (h : ST w B g F m) (hw : WF m) {other mark : Int} {v : Vl} {l n e : Nat} (hl : m.isL l = true) (hn : n < m.len) (hr : m.ret n = some e) (hlen : m.len ≤ 4611686018427387904) (hsz : (m.seq l).length ≤ 1000000) (hm : e ∈ m.seq l) :
    Calls Try.prog 99 #[.pointer (some ⟨g, 0, none⟩), Cl.agg' ⟨8, l, other, n, mark, v⟩] w fun r w' => r = .returned (.tuple #[]) ∧ SP w w' B g F (m.move ⟨8, l, other, n, mark, v⟩) := by
  have hll := hw.isl l hl
  have F0 := Fr.start h ⟨8, l, other, n, mark, v⟩
  obtain ⟨v0, v1, v2, v3, ls, hs⟩ := F0.sp.sr
  have c2 := hs.c2
  obtain ⟨b2, cap2, rfl, g2, _⟩ := hs.at2 hn
  rw [hr, optI_some] at g2
  have AT := fun n => Lib.hid (at_c (hs.drewN n) hll e hlen (by omega) (hw.nodup l))
  have FA := Lib.hid F0
  have HW := Lib.hid hw
  unfold Cl.agg'
  simp only [Cl.arr] at c2 g2 AT
  rw [idx_mem hm] at AT
  have dk : ∀ j : Nat, decide (((j : Nat) : Int) < 0) = false := fun j => by simp <;> omega
  have dk := dk ((m.seq l).idxOf e)
  have e1 : m.move ⟨8, l, other, n, mark, v⟩ = (m.take l e).put l ((m.take l e).seq l).length e := by simp [Md.move, Md.moveTo, hr, hm]
  rw [e1]
  clear h hw hs F0 e1 hr hm
  go_enter Try.func99, Try.ntmps99
  go_wp2
  go_quiet (fail)
  go_wp2_with fail
  refine (AT _).out.mono ?_
  rintro r w1 ⟨rfl, rfl⟩
  go_wp2_with fail
  refine (take_c (l := l) (e := e) (FA.out.drewN _).sp.st hll hlen hsz).mono ?_
  rintro r w1 ⟨rfl, S1⟩
  have F1 := Lib.hid ((FA.out.drewN _).next S1)
  have y0 := F1.out.cell (j := 0) rfl
  have y1 := F1.out.cell (j := 1) rfl
  clear S1
  obtain ⟨x0, x1, x2, x3, xs, hs1⟩ := F1.out.sp.sr
  have c1' := hs1.c1
  obtain ⟨b1, cap1, rfl, cl, _⟩ := hs1.at1 (i := l) hll
  have c1 : w1.cell? ⟨g, 1, none⟩ = some (.slice (some ⟨b1, 0, none⟩) m.len cap1) := c1'
  clear c1'
  obtain ⟨a', cp', hx⟩ := (hs1.ll l hll).form
  rw [hx] at cl
  clear hs1 hx
  have hsz1 : ((m.take l e).seq l).length ≤ 1000000 := Nat.le_trans (by rw [take_seq]; exact without_le _ _) hsz
  have hll1 : l < (m.take l e).len := hll
  generalize hLL : ((m.take l e).seq l).length = LL at *
  have HLL := Lib.hid hLL; clear hLL
  go_wp2_with fail
  go_region_law
    ((go_simp; go_at_call 96
      refine (put_c (l := l) (k := LL) (e := e) (F1.out.drewN 1).sp.st hll (by rw [HLL.out]; exact Nat.le_refl _) hlen (by rw [HLL.out]; exact hsz1)).mono ?_
      rintro r w2 ⟨rfl, S2⟩
      have F2 := Lib.hid ((F1.out.drewN 1).next S2)
      clear S2))
  all_goals
    go_wp2
    first | go_end0 | (refine bodyPost_ret (results_none rfl _ _ _) rfl ?_)
    exact ⟨rfl, by rw [HLL.out]; exact F2.out.sp⟩

set_option maxHeartbeats 1000000 in
theorem move_9 {w : World} {B g : Nat} {F : Nat → Prop} {m : Md} (h : ST w B g F m) (hw : WF m) {other : Int} {v : Vl} {l n e i k : Nat} (hl : m.isL l = true) (hn : n < m.len) (hr : m.ret n = some e) (hi : i < m.len) (hri : m.ret i = some k) (hlen : m.len ≤ 4611686018427387904) (hsz : (m.seq l).length ≤ 1000000) (hm : e ∈ m.seq l) :
    Calls Try.prog 99 #[.pointer (some ⟨g, 0, none⟩), Cl.agg' ⟨9, l, other, n, i, v⟩] w fun r w' => r = .returned (.tuple #[]) ∧ SP w w' B g F (m.move ⟨9, l, other, n, i, v⟩) := by
  have hll := hw.isl l hl
  have F0 := Fr.start h ⟨9, l, other, n, i, v⟩
  obtain ⟨v0, v1, v2, v3, ls, hs⟩ := F0.sp.sr
  have c2 := hs.c2
  obtain ⟨b2, cap2, rfl, g2, _⟩ := hs.at2 hn
  have g3 := hs.rt hi
  rw [hr, optI_some] at g2
  rw [hri, optI_some] at g3
  have AT := fun n => Lib.hid (at_c (hs.drewN n) hll e hlen (by omega) (hw.nodup l))
  have AK := fun n => Lib.hid (at_c (hs.drewN n) hll k hlen (by omega) (hw.nodup l))
  have FA := Lib.hid F0
  have HW := Lib.hid hw
  unfold Cl.agg'
  simp only [Cl.arr] at c2 g2 g3 AT AK
  rw [idx_mem hm] at AT
  have dk : ∀ j : Nat, decide (((j : Nat) : Int) < 0) = false := fun j => by simp <;> omega
  have dk1 := dk ((m.seq l).idxOf e)
  by_cases hke : k = e
  · subst hke
    have e1 : m.move ⟨9, l, other, n, i, v⟩ = m := by simp [Md.move, Md.moveTo, hr, hri, hm]
    rw [e1]
    clear h hw hs F0 e1 hr hri hm dk AK
    go_enter Try.func99, Try.ntmps99
    go_wp2
    go_quiet (fail)
    go_wp2_with fail
    refine (AT _).out.mono ?_
    rintro r w1 ⟨rfl, rfl⟩
    go_wp2
    go_quiet (fail)
    go_wp2
    first | go_end0 | (refine bodyPost_ret (results_none rfl _ _ _) rfl ?_)
    exact ⟨rfl, (FA.out.drewN _).sp⟩
  have dke : (((k : Nat) : Int) == ((e : Nat) : Int)) = false := by simp; omega
  by_cases hk : k ∈ m.seq l
  · simp only [idx_mem hk] at AK
    have dk2 := dk ((m.seq l).idxOf k)
    have e1 : m.move ⟨9, l, other, n, i, v⟩ = (m.take l e).put l (((m.take l e).seq l).idxOf k + 0) e := by simp [Md.move, Md.moveTo, hr, hri, hm, hke, hk]
    rw [e1]
    have hkm : k ∈ (m.take l e).seq l := by rw [take_seq]; simp [without, hk, hke]
    have hnd : ((m.take l e).seq l).Nodup := by rw [take_seq]; exact (hw.nodup l).filter _
    have hsz1 : ((m.take l e).seq l).length ≤ 1000000 := Nat.le_trans (by rw [take_seq]; exact without_le _ _) hsz
    have hix := List.idxOf_lt_length_of_mem hkm
    have IX := Lib.hid (idx_mem hkm)
    have ND := Lib.hid hnd
    have HKE := Lib.hid hke
    clear h hw hs F0 e1 hr hri hm dk hkm hnd hke hk
    go_enter Try.func99, Try.ntmps99
    go_wp2
    go_quiet (fail)
    go_wp2_with fail
    refine (AT _).out.mono ?_
    rintro r w1 ⟨rfl, rfl⟩
    go_wp2
    go_quiet (fail)
    go_wp2_with fail
    refine (AK _).out.mono ?_
    rintro r w1 ⟨rfl, rfl⟩
    go_wp2_with fail
    refine (take_c (l := l) (e := e) (FA.out.drewN _).sp.st hll hlen hsz).mono ?_
    rintro r w1 ⟨rfl, S1⟩
    have F1 := Lib.hid ((FA.out.drewN _).next S1)
    have y0 := F1.out.cell (j := 0) rfl
    have y1 := F1.out.cell (j := 1) rfl
    clear S1
    obtain ⟨x0, x1, x2, x3, xs, hs1⟩ := F1.out.sp.sr
    have AM := Lib.hid (at_c hs1 (l := l) hll k hlen (by omega) ND.out)
    rw [IX.out] at AM
    clear hs1
    go_wp2_with fail
    refine AM.out.mono ?_
    rintro r w2 ⟨rfl, rfl⟩
    go_wp2_with fail
    skip
    refine (put_c (l := l) (k := ((m.take l e).seq l).idxOf k + 0) (e := e) F1.out.sp.st hll (by omega) hlen hsz1).mono ?_
    rintro r w2 ⟨rfl, S2⟩
    have F2 := Lib.hid (F1.out.next S2)
    clear S2
    go_wp2
    first | go_end0 | (refine bodyPost_ret (results_none rfl _ _ _) rfl ?_)
    exact ⟨rfl, F2.out.sp⟩
  · simp only [idx_not hk] at AK
    have e1 : m.move ⟨9, l, other, n, i, v⟩ = m := by simp [Md.move, Md.moveTo, hr, hri, hm, hk]
    rw [e1]
    clear h hw hs F0 e1 hr hri hm dk hk hke
    go_enter Try.func99, Try.ntmps99
    go_wp2
    go_quiet (fail)
    go_wp2_with fail
    refine (AT _).out.mono ?_
    rintro r w1 ⟨rfl, rfl⟩
    go_wp2
    go_quiet (fail)
    go_wp2_with fail
    refine (AK _).out.mono ?_
    rintro r w1 ⟨rfl, rfl⟩
    go_wp2
    first | go_end0 | (refine bodyPost_ret (results_none rfl _ _ _) rfl ?_)
    exact ⟨rfl, (FA.out.drewN _).sp⟩

set_option maxHeartbeats 1000000 in
theorem move_10 {w : World} {B g : Nat} {F : Nat → Prop} {m : Md} (h : ST w B g F m) (hw : WF m) {other : Int} {v : Vl} {l n e i k : Nat} (hl : m.isL l = true) (hn : n < m.len) (hr : m.ret n = some e) (hi : i < m.len) (hri : m.ret i = some k) (hlen : m.len ≤ 4611686018427387904) (hsz : (m.seq l).length ≤ 1000000) (hm : e ∈ m.seq l) :
    Calls Try.prog 99 #[.pointer (some ⟨g, 0, none⟩), Cl.agg' ⟨10, l, other, n, i, v⟩] w fun r w' => r = .returned (.tuple #[]) ∧ SP w w' B g F (m.move ⟨10, l, other, n, i, v⟩) := by
  have hll := hw.isl l hl
  have F0 := Fr.start h ⟨10, l, other, n, i, v⟩
  obtain ⟨v0, v1, v2, v3, ls, hs⟩ := F0.sp.sr
  have c2 := hs.c2
  obtain ⟨b2, cap2, rfl, g2, _⟩ := hs.at2 hn
  have g3 := hs.rt hi
  rw [hr, optI_some] at g2
  rw [hri, optI_some] at g3
  have AT := fun n => Lib.hid (at_c (hs.drewN n) hll e hlen (by omega) (hw.nodup l))
  have AK := fun n => Lib.hid (at_c (hs.drewN n) hll k hlen (by omega) (hw.nodup l))
  have FA := Lib.hid F0
  have HW := Lib.hid hw
  unfold Cl.agg'
  simp only [Cl.arr] at c2 g2 g3 AT AK
  rw [idx_mem hm] at AT
  have dk : ∀ j : Nat, decide (((j : Nat) : Int) < 0) = false := fun j => by simp <;> omega
  have dk1 := dk ((m.seq l).idxOf e)
  by_cases hke : k = e
  · subst hke
    have e1 : m.move ⟨10, l, other, n, i, v⟩ = m := by simp [Md.move, Md.moveTo, hr, hri, hm]
    rw [e1]
    clear h hw hs F0 e1 hr hri hm dk AK
    go_enter Try.func99, Try.ntmps99
    go_wp2
    go_quiet (fail)
    go_wp2_with fail
    refine (AT _).out.mono ?_
    rintro r w1 ⟨rfl, rfl⟩
    go_wp2
    go_quiet (fail)
    go_wp2
    first | go_end0 | (refine bodyPost_ret (results_none rfl _ _ _) rfl ?_)
    exact ⟨rfl, (FA.out.drewN _).sp⟩
  have dke : (((k : Nat) : Int) == ((e : Nat) : Int)) = false := by simp; omega
  by_cases hk : k ∈ m.seq l
  · simp only [idx_mem hk] at AK
    have dk2 := dk ((m.seq l).idxOf k)
    have e1 : m.move ⟨10, l, other, n, i, v⟩ = (m.take l e).put l (((m.take l e).seq l).idxOf k + 1) e := by simp [Md.move, Md.moveTo, hr, hri, hm, hke, hk]
    rw [e1]
    have hkm : k ∈ (m.take l e).seq l := by rw [take_seq]; simp [without, hk, hke]
    have hnd : ((m.take l e).seq l).Nodup := by rw [take_seq]; exact (hw.nodup l).filter _
    have hsz1 : ((m.take l e).seq l).length ≤ 1000000 := Nat.le_trans (by rw [take_seq]; exact without_le _ _) hsz
    have hix := List.idxOf_lt_length_of_mem hkm
    have IX := Lib.hid (idx_mem hkm)
    have ND := Lib.hid hnd
    have HKE := Lib.hid hke
    clear h hw hs F0 e1 hr hri hm dk hkm hnd hke hk
    go_enter Try.func99, Try.ntmps99
    go_wp2
    go_quiet (fail)
    go_wp2_with fail
    refine (AT _).out.mono ?_
    rintro r w1 ⟨rfl, rfl⟩
    go_wp2
    go_quiet (fail)
    go_wp2_with fail
    refine (AK _).out.mono ?_
    rintro r w1 ⟨rfl, rfl⟩
    go_wp2_with fail
    refine (take_c (l := l) (e := e) (FA.out.drewN _).sp.st hll hlen hsz).mono ?_
    rintro r w1 ⟨rfl, S1⟩
    have F1 := Lib.hid ((FA.out.drewN _).next S1)
    have y0 := F1.out.cell (j := 0) rfl
    have y1 := F1.out.cell (j := 1) rfl
    clear S1
    obtain ⟨x0, x1, x2, x3, xs, hs1⟩ := F1.out.sp.sr
    have AM := Lib.hid (at_c hs1 (l := l) hll k hlen (by omega) ND.out)
    rw [IX.out] at AM
    clear hs1
    go_wp2_with fail
    refine AM.out.mono ?_
    rintro r w2 ⟨rfl, rfl⟩
    go_wp2_with fail
    rw [show ((((m.take l e).seq l).idxOf k : Nat) : Int) + 1 = ((((m.take l e).seq l).idxOf k + 1 : Nat) : Int) by omega]
    refine (put_c (l := l) (k := ((m.take l e).seq l).idxOf k + 1) (e := e) F1.out.sp.st hll (by omega) hlen hsz1).mono ?_
    rintro r w2 ⟨rfl, S2⟩
    have F2 := Lib.hid (F1.out.next S2)
    clear S2
    go_wp2
    first | go_end0 | (refine bodyPost_ret (results_none rfl _ _ _) rfl ?_)
    exact ⟨rfl, F2.out.sp⟩
  · simp only [idx_not hk] at AK
    have e1 : m.move ⟨10, l, other, n, i, v⟩ = m := by simp [Md.move, Md.moveTo, hr, hri, hm, hk]
    rw [e1]
    clear h hw hs F0 e1 hr hri hm dk hk hke
    go_enter Try.func99, Try.ntmps99
    go_wp2
    go_quiet (fail)
    go_wp2_with fail
    refine (AT _).out.mono ?_
    rintro r w1 ⟨rfl, rfl⟩
    go_wp2
    go_quiet (fail)
    go_wp2_with fail
    refine (AK _).out.mono ?_
    rintro r w1 ⟨rfl, rfl⟩
    go_wp2
    first | go_end0 | (refine bodyPost_ret (results_none rfl _ _ _) rfl ?_)
    exact ⟨rfl, (FA.out.drewN _).sp⟩

end Bead
end Go.Proofs.Ytidnmanljdadaaa
