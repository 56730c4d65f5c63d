/- Contracts of PushBackList and PushFrontList: copies of all elements of a list, which may be the list itself, at one end. -/
import Derived.Test.YtidnmanljdadaaaLWalk3
import Derived.Deep.LoopGhost
import Derived.Deep.RegionWith
set_option linter.all false
namespace Go.Proofs.Ytidnmanljdadaaa
open Go.RowKit
namespace Bead
set_option maxRecDepth 100000

/-- New elements N, N + 1, .. with the values of the elements ys, behind the list l; or ahead of it, the later ones further ahead. -/
def BM.app (m : BM) (l N : Nat) (ys : List Nat) : BM :=
  { L := m.L, E := fun k => m.E k ∨ (N ≤ k ∧ k < N + ys.length), sq := upd m.sq l (m.sq l ++ List.range' N ys.length),
    ow := fun k => if N ≤ k ∧ k < N + ys.length then some l else m.ow k, vl := fun k => if N ≤ k ∧ k < N + ys.length then m.vl (ys.getD (k - N) 0) else m.vl k }
def BM.pre (m : BM) (l N : Nat) (ys : List Nat) : BM :=
  { L := m.L, E := fun k => m.E k ∨ (N ≤ k ∧ k < N + ys.length), sq := upd m.sq l ((List.range' N ys.length).reverse ++ m.sq l),
    ow := fun k => if N ≤ k ∧ k < N + ys.length then some l else m.ow k, vl := fun k => if N ≤ k ∧ k < N + ys.length then m.vl (ys.getD (k - N) 0) else m.vl k }

theorem app_nil (m : BM) (l N : Nat) : m.app l N [] = m := by
  cases m
  simp only [BM.app, List.length_nil, Nat.add_zero, List.range'_zero, List.append_nil, upd_self, BM.mk.injEq, true_and]
  have : ∀ k, ¬ (N ≤ k ∧ k < N) := fun k => by omega
  simp [this]
theorem pre_nil (m : BM) (l N : Nat) : m.pre l N [] = m := by
  cases m
  simp only [BM.pre, List.length_nil, Nat.add_zero, List.range'_zero, List.reverse_nil, List.nil_append, upd_self, BM.mk.injEq, true_and]
  have : ∀ k, ¬ (N ≤ k ∧ k < N) := fun k => by omega
  simp [this]

theorem app_snoc (m : BM) (l N : Nat) (ys : List Nat) (x : Nat) : m.app l N (ys ++ [x]) = (m.app l N ys).ins l ((m.app l N ys).sq l) [] (N + ys.length) (m.vl x) := by
  simp only [BM.app, BM.ins, BM.mk.injEq, true_and, List.length_append, List.length_singleton, upd_same]
  refine ⟨?_, ?_, ?_, ?_⟩
  · funext k; apply propext
    constructor
    · rintro (h | h)
      · exact .inl (.inl h)
      · by_cases q : k = N + ys.length
        · exact .inr q
        · exact .inl (.inr (by omega))
    · rintro ((h | h) | h)
      · exact .inl h
      · exact .inr (by omega)
      · exact .inr (by omega)
  · funext k
    simp only [upd]
    split
    · rw [← List.range'_append_1, List.append_assoc]; simp
    · rfl
  · funext k
    simp only [upd]
    by_cases q : k = N + ys.length
    · rw [if_pos q, if_pos (by omega)]
    · rw [if_neg q]
      by_cases r : N ≤ k ∧ k < N + ys.length
      · rw [if_pos r, if_pos (by omega)]
      · rw [if_neg r, if_neg (by omega)]
  · funext k
    simp only [upd]
    by_cases q : k = N + ys.length
    · rw [if_pos q, if_pos (by omega), q]
      congr 1
      rw [Nat.add_sub_cancel_left, List.getD_eq_getElem?_getD, List.getElem?_append_right (Nat.le_refl _)]; simp
    · rw [if_neg q]
      by_cases r : N ≤ k ∧ k < N + ys.length
      · rw [if_pos r, if_pos (by omega)]
        congr 1
        rw [List.getD_eq_getElem?_getD, List.getD_eq_getElem?_getD, List.getElem?_append_left (by omega)]
      · rw [if_neg r, if_neg (by omega)]

theorem pre_snoc (m : BM) (l N : Nat) (ys : List Nat) (x : Nat) : m.pre l N (ys ++ [x]) = (m.pre l N ys).ins l [] ((m.pre l N ys).sq l) (N + ys.length) (m.vl x) := by
  simp only [BM.pre, BM.ins, BM.mk.injEq, true_and, List.length_append, List.length_singleton, upd_same]
  refine ⟨?_, ?_, ?_, ?_⟩
  · funext k; apply propext
    constructor
    · rintro (h | h)
      · exact .inl (.inl h)
      · by_cases q : k = N + ys.length
        · exact .inr q
        · exact .inl (.inr (by omega))
    · rintro ((h | h) | h)
      · exact .inl h
      · exact .inr (by omega)
      · exact .inr (by omega)
  · funext k
    simp only [upd]
    split
    · rw [← List.range'_append_1]; simp
    · rfl
  · funext k
    simp only [upd]
    by_cases q : k = N + ys.length
    · rw [if_pos q, if_pos (by omega)]
    · rw [if_neg q]
      by_cases r : N ≤ k ∧ k < N + ys.length
      · rw [if_pos r, if_pos (by omega)]
      · rw [if_neg r, if_neg (by omega)]
  · funext k
    simp only [upd]
    by_cases q : k = N + ys.length
    · rw [if_pos q, if_pos (by omega), q]
      congr 1
      rw [Nat.add_sub_cancel_left, List.getD_eq_getElem?_getD, List.getElem?_append_right (Nat.le_refl _)]; simp
    · rw [if_neg q]
      by_cases r : N ≤ k ∧ k < N + ys.length
      · rw [if_pos r, if_pos (by omega)]
        congr 1
        rw [List.getD_eq_getElem?_getD, List.getD_eq_getElem?_getD, List.getElem?_append_left (by omega)]
      · rw [if_neg r, if_neg (by omega)]

theorem insertBack_I {w : World} {m : BM} {l : Nat} {v : Value} (hv : IsAny v) (h : BRepI w m l) (hl : m.L l) (hz : (m.sq l).length < 4611686018427387904) :
    Calls Try.prog 105 #[.pointer (some ⟨l, 0, none⟩), v, .pointer (some ⟨lt l (m.sq l), 0, none⟩)] w fun r w' =>
      r = .returned (.pointer (some ⟨w.heap.size, 0, none⟩)) ∧ BRepI w' (m.ins l (m.sq l) [] w.heap.size v) l ∧ Keeps m.node w w' ∧ w'.heap.size = w.heap.size + 1 :=
  insertValue_c (u := m.sq l) (z := []) hv h hl (by simp) hz
theorem insertFront_I {w : World} {m : BM} {l : Nat} {v : Value} (hv : IsAny v) (h : BRepI w m l) (hl : m.L l) (hz : (m.sq l).length < 4611686018427387904) :
    Calls Try.prog 105 #[.pointer (some ⟨l, 0, none⟩), v, .pointer (some ⟨l, 0, none⟩)] w fun r w' =>
      r = .returned (.pointer (some ⟨w.heap.size, 0, none⟩)) ∧ BRepI w' (m.ins l [] (m.sq l) w.heap.size v) l ∧ Keeps m.node w w' ∧ w'.heap.size = w.heap.size + 1 :=
  insertValue_c (u := []) (z := m.sq l) hv h hl rfl hz

/-- The state at the head of the loop's round j. -/
structure AppAt (w : World) (m : BM) (l o j : Nat) (wr : World) : Prop where
  rep : BRepI wr (m.app l w.heap.size ((m.sq o).take j)) l
  keeps : Keeps m.node w wr
  size : wr.heap.size = w.heap.size + j

/-- The element that the loop stands at. -/
def elemAt (xs : List Nat) (j : Nat) (v : Value) : Prop := ∃ p : Option Addr, v = .pointer p ∧ ∀ x, xs[j]? = some x → p = some ⟨x, 0, none⟩

theorem app_seq {m : BM} {l N o j : Nat} {xs : List Nat} (hx : m.sq o = xs) : ∃ t, (m.app l N (xs.take j)).sq o = xs ++ t := by
  simp only [BM.app, upd]
  split
  · rename_i q; subst q; exact ⟨_, by rw [hx]⟩
  · exact ⟨[], by rw [hx]; simp⟩

theorem AppAt.next {w : World} {m : BM} {l o j : Nat} {wr : World} (h : AppAt w m l o (j + 1) wr) (hl : m.L l) (ho : m.L o) {x : Nat} (hj : (m.sq o)[j]? = some x) :
    Calls Try.prog 75 #[.pointer (some ⟨x, 0, none⟩)] wr fun r w' => (∃ v, r = .returned v ∧ elemAt (m.sq o) (j + 1) v) ∧ wr = w' := by
  obtain ⟨t, ht⟩ := app_seq (m := m) (l := l) (N := w.heap.size) (o := o) (j := j + 1) (xs := m.sq o) rfl
  have hjl : j < (m.sq o).length := (List.getElem?_eq_some_iff.1 hj).1
  have hs : (m.app l w.heap.size ((m.sq o).take (j + 1))).sq o = (m.sq o).take j ++ x :: ((m.sq o).drop (j + 1) ++ t) := by
    rw [ht]
    have : m.sq o = (m.sq o).take j ++ x :: (m.sq o).drop (j + 1) := by
      rw [(List.getElem?_eq_some_iff.1 hj).2.symm, ← List.drop_eq_getElem_cons hjl, List.take_append_drop]
    conv => lhs; rw [this]
    simp
  have _ := hl
  refine (next_c (l := o) h.rep.rep ho hs).mono ?_
  rintro r w' ⟨rfl, rfl⟩
  refine ⟨⟨_, rfl, _, rfl, ?_⟩, rfl⟩
  intro y hy
  have : ((m.sq o).drop (j + 1) ++ t).head? = some y := by
    rw [List.head?_eq_getElem?, List.getElem?_append_left (by simp; have := (List.getElem?_eq_some_iff.1 hy).1; omega), List.getElem?_drop]; simpa using hy
  rw [this]; rfl
theorem BRepI.drew {w : World} {m : BM} {l : Nat} (h : BRepI w m l) : BRepI w.drew m l := by obtain ⟨nx, pv, a, b, c⟩ := h; exact ⟨nx, pv, a.drew, b, c⟩

theorem app_vl {m : BM} {l N x : Nat} (ys : List Nat) (h : x < N) : (m.app l N ys).vl x = m.vl x := by simp only [BM.app]; rw [if_neg (by omega)]
theorem pre_vl {m : BM} {l N x : Nat} (ys : List Nat) (h : x < N) : (m.pre l N ys).vl x = m.vl x := by simp only [BM.pre]; rw [if_neg (by omega)]

/-- What a round of PushBackList knows. -/
theorem AppAt.round {w : World} {m : BM} {l o j : Nat} {wr : World} (h0 : BRep w m) (h : AppAt w m l o j wr) (hl : m.L l) (ho : m.L o) (hany : ∀ e, m.E e → IsAny (m.vl e)) (hz : (m.sq l).length + (m.sq o).length < 4611686018427387904)
    {x : Nat} (hj : (m.sq o)[j]? = some x) :
    ∃ v p, wr.cell? ⟨x, 3, none⟩ = some v ∧ wr.cell? ⟨l, 1, none⟩ = some (.pointer (some ⟨p, 0, none⟩)) ∧ ∀ nq, Calls Try.prog 105 #[.pointer (some ⟨l, 0, none⟩), v, .pointer (some ⟨p, 0, none⟩)] (wr.drewN nq) fun r w' =>
      (∃ b, r = .returned (.pointer b)) ∧ AppAt w m l o (j + 1) w' := by
  have hx := h0.own ho (List.mem_of_getElem? hj)
  have hxl := h0.lt (.inr hx.1)
  have c3 := h.rep.rep.vlc (e := x) (.inl hx.1)
  have r1 := (root_cells h.rep hl).2
  rw [app_vl _ hxl] at c3
  refine ⟨_, _, c3, r1, fun nq => ?_⟩
  have hlen : ((m.app l w.heap.size ((m.sq o).take j)).sq l).length < 4611686018427387904 := by
    simp only [BM.app, upd_same, List.length_append, List.length_range', List.length_take]; omega
  have hR : BRepI (wr.drewN nq) (m.app l w.heap.size ((m.sq o).take j)) l := by
    obtain ⟨nx, pv, a, b, c⟩ := h.rep
    exact ⟨nx, pv, ⟨a.l, a.e⟩, b, c⟩
  refine (insertBack_I (hany x hx.1) hR hl hlen).mono ?_
  rintro r w' ⟨rfl, hR2, hK2, hz2⟩
  have hsz : (wr.drewN nq).heap.size = w.heap.size + j := h.size
  have hjl : j < (m.sq o).length := (List.getElem?_eq_some_iff.1 hj).1
  refine ⟨⟨_, rfl⟩, ?_, ?_, by rw [hz2, hsz]; omega⟩
  · have e1 : (m.sq o).take (j + 1) = (m.sq o).take j ++ [x] := by
      rw [List.take_succ_eq_append_getElem hjl, (List.getElem?_eq_some_iff.1 hj).2]
    rw [e1, app_snoc]
    have e2 : ((m.sq o).take j).length = j := by rw [List.length_take]; omega
    rw [e2, ← hsz]
    exact hR2
  · have hk1 : Keeps m.node w (wr.drewN nq) := ⟨h.keeps.os, h.keeps.tape, h.keeps.output, h.keeps.size, h.keeps.block⟩
    refine hk1.then hK2 ?_
    intro i hi hS
    rcases hS with q | q | q
    · exact .inl q
    · exact .inr q
    · omega

set_option maxHeartbeats 1000000 in
theorem pushBackList_c {w : World} {m : BM} {l o : Nat} (h : BRep w m) (hl : m.L l) (ho : m.L o) (hany : ∀ e, m.E e → IsAny (m.vl e)) (hz : (m.sq l).length + (m.sq o).length < 4611686018427387904) :
    Calls Try.prog 68 #[.pointer (some ⟨l, 0, none⟩), .pointer (some ⟨o, 0, none⟩)] w fun r w' =>
      r = .returned (.tuple #[]) ∧ BRep w' (m.app l w.heap.size (m.sq o)) ∧ Keeps m.node w w' ∧ w'.heap.size = w.heap.size + (m.sq o).length := by
  have k1 := Lib.hid (lazyInit_c h hl)
  go_enter Try.func68, Try.ntmps68
  go_wp2_with fail
  refine k1.out.mono ?_
  rintro e w1 ⟨rfl, hR, hK, hz1⟩
  have k2 := Lib.hid (len_c hR.rep ho)
  have k3 := Lib.hid (front_c hR.rep ho)
  have A0 : Hid (AppAt w m l o 0 w1) := ⟨by rw [List.take_zero, app_nil]; exact hR, hK, hz1⟩
  clear hR hK hz1 k1
  go_wp2_with fail
  refine k2.out.mono ?_
  rintro e w2 ⟨rfl, rfl⟩
  go_wp2_with fail
  refine k3.out.mono ?_
  rintro e w2 ⟨rfl, rfl⟩
  have B0 := Lib.hid h; have HA := Lib.hid hany; clear h hany k2 k3
  go_wp2_with fail
  go_loopg [4, 5] (m.sq o).length (fun k i e wr => ∃ j, j + k = (m.sq o).length ∧ i = .int .i64 (k : Int) ∧ elemAt (m.sq o) j e ∧ AppAt w m l o j wr)
  case atStart =>
    refine ⟨0, by omega, rfl, ⟨_, rfl, ?_⟩, A0.out⟩
    intro x hx
    rw [← List.head?_eq_getElem?] at hx
    rw [hx]; rfl
  case round =>
    obtain ⟨j, hjk, rfl, ⟨p, rfl, he⟩, hA⟩ := hrel
    by_cases hk0 : gk = 0
    · subst hk0
      have FIN : Hid (BRep wr (m.app l w.heap.size (m.sq o)) ∧ Keeps m.node w wr ∧ wr.heap.size = w.heap.size + (m.sq o).length) := by
        obtain rfl : j = (m.sq o).length := by omega
        have := hA.rep.rep
        rw [List.take_length] at this
        exact ⟨this, hA.keeps, hA.size⟩
      clear hA he hjk A0 B0 HA
      go_wp2
      go_end0
      exact ⟨rfl, FIN.out⟩
    · have hjl : j < (m.sq o).length := by omega
      obtain ⟨x, hx⟩ : ∃ x, (m.sq o)[j]? = some x := ⟨_, List.getElem?_eq_getElem hjl⟩
      have hp := he x hx
      subst hp
      obtain ⟨v, p, c3, r1, hcall⟩ := hA.round B0.out hl ho HA.out hz hx
      have HC := Lib.hid hcall; have HX := Lib.hid hx; have HJ := Lib.hid hjk
      have hgk : 1 ≤ gk := by omega
      have hgk2 : gk ≤ 4611686018427387904 := by omega
      have HZ := Lib.hid hz
      clear hcall hx hjk hA he A0 hk0 hjl hz
      go_wp2_with fail
      go_region_with (go_at_call 105; refine (HC.out 1).mono ?_; rintro r w' ⟨⟨b, rfl⟩, hA'⟩; have HA' := Lib.hid hA'; clear hA')
      all_goals
        go_wp2_with fail
        refine (HA'.out.next hl ho HX.out).mono ?_
        rintro r w'' ⟨⟨v', rfl, hv'⟩, rfl⟩
        have HV := Lib.hid hv'; clear hv'
        go_wp2
        go_roundg (gk - 1)
        case measure => omega
        case rel => exact ⟨j + 1, by have := HJ.out; omega, by go_num, HV.out, HA'.out⟩
/-- The state at the head of round j of PushFrontList's loop. -/
structure PreAt (w : World) (m : BM) (l o j : Nat) (wr : World) : Prop where
  rep : BRepI wr (m.pre l w.heap.size ((m.sq o).reverse.take j)) l
  keeps : Keeps m.node w wr
  size : wr.heap.size = w.heap.size + j

theorem pre_seq {m : BM} {l N o j : Nat} : ∃ t, (m.pre l N ((m.sq o).reverse.take j)).sq o = t ++ m.sq o := by
  simp only [BM.pre, upd]
  split
  · rename_i q; subst q; exact ⟨_, rfl⟩
  · exact ⟨[], by simp⟩

theorem PreAt.prev {w : World} {m : BM} {l o j : Nat} {wr : World} (h : PreAt w m l o (j + 1) wr) (hl : m.L l) (ho : m.L o) {x : Nat} (hj : (m.sq o).reverse[j]? = some x) :
    Calls Try.prog 76 #[.pointer (some ⟨x, 0, none⟩)] wr fun r w' => (∃ v, r = .returned v ∧ elemAt (m.sq o).reverse (j + 1) v) ∧ wr = w' := by
  obtain ⟨t, ht⟩ := pre_seq (m := m) (l := l) (N := w.heap.size) (o := o) (j := j + 1)
  have hjl : j < (m.sq o).reverse.length := (List.getElem?_eq_some_iff.1 hj).1
  have hdec : m.sq o = ((m.sq o).reverse.drop (j + 1)).reverse ++ x :: ((m.sq o).reverse.take j).reverse := by
    have : (m.sq o).reverse = (m.sq o).reverse.take j ++ x :: (m.sq o).reverse.drop (j + 1) := by
      rw [(List.getElem?_eq_some_iff.1 hj).2.symm, ← List.drop_eq_getElem_cons hjl, List.take_append_drop]
    have h2 := congrArg List.reverse this
    rw [List.reverse_reverse] at h2
    rw [List.reverse_append, List.reverse_cons, List.append_assoc] at h2
    simpa using h2
  have hs : (m.pre l w.heap.size ((m.sq o).reverse.take (j + 1))).sq o = (t ++ ((m.sq o).reverse.drop (j + 1)).reverse) ++ x :: ((m.sq o).reverse.take j).reverse := by
    rw [ht]
    conv => lhs; rw [hdec]
    simp
  have _ := hl
  refine (prev_c (l := o) h.rep.rep ho hs).mono ?_
  rintro r w' ⟨rfl, rfl⟩
  refine ⟨⟨_, rfl, _, rfl, ?_⟩, rfl⟩
  intro y hy
  have : (t ++ ((m.sq o).reverse.drop (j + 1)).reverse).getLast? = some y := by
    have hne : ((m.sq o).reverse.drop (j + 1)).head? = some y := by
      rw [List.head?_eq_getElem?, List.getElem?_drop]; simpa using hy
    rw [List.getLast?_append, List.getLast?_reverse, hne]; rfl
  rw [this]; rfl

theorem PreAt.round {w : World} {m : BM} {l o j : Nat} {wr : World} (h0 : BRep w m) (h : PreAt w m l o j wr) (hl : m.L l) (ho : m.L o) (hany : ∀ e, m.E e → IsAny (m.vl e)) (hz : (m.sq l).length + (m.sq o).length < 4611686018427387904)
    {x : Nat} (hj : (m.sq o).reverse[j]? = some x) :
    ∃ v, wr.cell? ⟨x, 3, none⟩ = some v ∧ ∀ nq, Calls Try.prog 105 #[.pointer (some ⟨l, 0, none⟩), v, .pointer (some ⟨l, 0, none⟩)] (wr.drewN nq) fun r w' =>
      (∃ b, r = .returned (.pointer b)) ∧ PreAt w m l o (j + 1) w' := by
  have hx := h0.own ho (List.mem_reverse.1 (List.mem_of_getElem? hj))
  have hxl := h0.lt (.inr hx.1)
  have c3 := h.rep.rep.vlc (e := x) (.inl hx.1)
  rw [pre_vl _ hxl] at c3
  refine ⟨_, c3, fun nq => ?_⟩
  have hlen : ((m.pre l w.heap.size ((m.sq o).reverse.take j)).sq l).length < 4611686018427387904 := by
    simp only [BM.pre, upd_same, List.length_append, List.length_reverse, List.length_range', List.length_take]; omega
  have hR : BRepI (wr.drewN nq) (m.pre l w.heap.size ((m.sq o).reverse.take j)) l := by
    obtain ⟨nx, pv, a, b, c⟩ := h.rep
    exact ⟨nx, pv, ⟨a.l, a.e⟩, b, c⟩
  refine (insertFront_I (hany x hx.1) hR hl hlen).mono ?_
  rintro r w' ⟨rfl, hR2, hK2, hz2⟩
  have hsz : (wr.drewN nq).heap.size = w.heap.size + j := h.size
  have hjl : j < (m.sq o).reverse.length := (List.getElem?_eq_some_iff.1 hj).1
  refine ⟨⟨_, rfl⟩, ?_, ?_, by rw [hz2, hsz]; omega⟩
  · have e1 : (m.sq o).reverse.take (j + 1) = (m.sq o).reverse.take j ++ [x] := by
      rw [List.take_succ_eq_append_getElem hjl, (List.getElem?_eq_some_iff.1 hj).2]
    rw [e1, pre_snoc]
    have e2 : ((m.sq o).reverse.take j).length = j := by rw [List.length_take]; omega
    rw [e2, ← hsz]
    exact hR2
  · have hk1 : Keeps m.node w (wr.drewN nq) := ⟨h.keeps.os, h.keeps.tape, h.keeps.output, h.keeps.size, h.keeps.block⟩
    refine hk1.then hK2 ?_
    intro i hi hS
    rcases hS with q | q | q
    · exact .inl q
    · exact .inr q
    · omega

set_option maxHeartbeats 1000000 in
theorem pushFrontList_c {w : World} {m : BM} {l o : Nat} (h : BRep w m) (hl : m.L l) (ho : m.L o) (hany : ∀ e, m.E e → IsAny (m.vl e)) (hz : (m.sq l).length + (m.sq o).length < 4611686018427387904) :
    Calls Try.prog 69 #[.pointer (some ⟨l, 0, none⟩), .pointer (some ⟨o, 0, none⟩)] w fun r w' =>
      r = .returned (.tuple #[]) ∧ BRep w' (m.pre l w.heap.size (m.sq o).reverse) ∧ Keeps m.node w w' ∧ w'.heap.size = w.heap.size + (m.sq o).length := by
  have k1 := Lib.hid (lazyInit_c h hl)
  go_enter Try.func69, Try.ntmps69
  go_wp2_with fail
  refine k1.out.mono ?_
  rintro e w1 ⟨rfl, hR, hK, hz1⟩
  have k2 := Lib.hid (len_c hR.rep ho)
  have k3 := Lib.hid (back_c hR.rep ho)
  have A0 : Hid (PreAt w m l o 0 w1) := ⟨by rw [List.take_zero, pre_nil]; exact hR, hK, hz1⟩
  clear hR hK hz1 k1
  go_wp2_with fail
  refine k2.out.mono ?_
  rintro e w2 ⟨rfl, rfl⟩
  go_wp2_with fail
  refine k3.out.mono ?_
  rintro e w2 ⟨rfl, rfl⟩
  have B0 := Lib.hid h; have HA := Lib.hid hany; clear h hany k2 k3
  go_wp2_with fail
  go_loopg [4, 5] (m.sq o).length (fun k i e wr => ∃ j, j + k = (m.sq o).length ∧ i = .int .i64 (k : Int) ∧ elemAt (m.sq o).reverse j e ∧ PreAt w m l o j wr)
  case atStart =>
    refine ⟨0, by omega, rfl, ⟨_, rfl, ?_⟩, A0.out⟩
    intro x hx
    rw [← List.head?_eq_getElem?, List.head?_reverse] at hx
    rw [hx]; rfl
  case round =>
    obtain ⟨j, hjk, rfl, ⟨p, rfl, he⟩, hA⟩ := hrel
    by_cases hk0 : gk = 0
    · subst hk0
      have FIN : Hid (BRep wr (m.pre l w.heap.size (m.sq o).reverse) ∧ Keeps m.node w wr ∧ wr.heap.size = w.heap.size + (m.sq o).length) := by
        obtain rfl : j = (m.sq o).length := by omega
        have := hA.rep.rep
        rw [List.take_of_length_le (by simp)] at this
        exact ⟨this, hA.keeps, hA.size⟩
      clear hA he hjk A0 B0 HA
      go_wp2
      go_end0
      exact ⟨rfl, FIN.out⟩
    · have hjl : j < (m.sq o).reverse.length := by simp; omega
      obtain ⟨x, hx⟩ : ∃ x, (m.sq o).reverse[j]? = some x := ⟨_, List.getElem?_eq_getElem hjl⟩
      have hp := he x hx
      subst hp
      obtain ⟨v, c3, hcall⟩ := hA.round B0.out hl ho HA.out hz hx
      have HC := Lib.hid hcall; have HX := Lib.hid hx; have HJ := Lib.hid hjk
      have hgk : 1 ≤ gk := by omega
      have hgk2 : gk ≤ 4611686018427387904 := by omega
      have HZ := Lib.hid hz
      clear hcall hx hjk hA he A0 hk0 hjl hz
      go_wp2_with fail
      go_region_with (go_at_call 105; refine (HC.out 1).mono ?_; rintro r w' ⟨⟨b, rfl⟩, hA'⟩; have HA' := Lib.hid hA'; clear hA')
      all_goals
        go_wp2_with fail
        refine (HA'.out.prev hl ho HX.out).mono ?_
        rintro r w'' ⟨⟨v', rfl, hv'⟩, rfl⟩
        have HV := Lib.hid hv'; clear hv'
        go_wp2
        go_roundg (gk - 1)
        case measure => omega
        case rel => exact ⟨j + 1, by have := HJ.out; omega, by go_num, HV.out, HA'.out⟩
end Bead
end Go.Proofs.Ytidnmanljdadaaa
