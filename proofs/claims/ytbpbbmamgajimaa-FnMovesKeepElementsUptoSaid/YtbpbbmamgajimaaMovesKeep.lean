/- FnMovesKeepElements returns true. -/
import Derived.Test.YtbpbbmamgajimaaScene
set_option linter.all false
namespace Go.Proofs.Ytbpbbmamgajimaa
open Go.RowKit
namespace Bead
set_option maxRecDepth 100000

theorem named_all {cs : List Cl} (ho : okFrom 500 Md.init cs = true) (hlen : cs.length ≤ 1048576) :
    okFrom 500 Md.init (namedC cs) = true ∧ WF (runFrom Md.init (namedC cs)) ∧ (∀ k e, e ∈ (runFrom Md.init (namedC cs)).seq k → ∃ i, (runFrom Md.init (namedC cs)).fst e = some i) ∧ (namedC cs).length ≤ 600000000 := by
  rcases q : listsOf cs with _ | ⟨l, r⟩
  · have e : namedC cs = cs := by unfold namedC; rw [q]; simp [Md.tour]
    rw [e]
    have hw := WF.run cs WF.init ho
    refine ⟨ho, hw, fun k f hf => ?_, by omega⟩
    have := (listsOf_iff cs k).2 (hw.isL_of_mem hf)
    rw [q] at this; simp at this
  · have h := named_scene ho hlen (l := l) (by rw [q]; simp)
    exact ⟨h.ok, h.wf, h.named, h.len⟩

/-- Moves change the order alone. -/
theorem moves_keep {most : Nat} : ∀ (cs : List Cl) {m : Md}, WF m → okFrom most m cs = true → (∀ c ∈ cs, 7 ≤ c.op ∧ c.op ≤ 10) → (∀ k, ((runFrom m cs).seq k).Perm (m.seq k)) ∧ (runFrom m cs).val = m.val ∧ (∀ e i, m.fst e = some i → (runFrom m cs).fst e = some i)
  | [], m, _, _, _ => ⟨fun _ => List.Perm.refl _, rfl, fun _ _ h => h⟩
  | c :: cs, m, h, ho, hc => by
    simp only [okFrom, Bool.and_eq_true] at ho
    have hp := (permitted_iff _ _ _).1 ho.1
    have hop := hc c (by simp)
    obtain ⟨_, _, e, he⟩ := hp.elem (by omega)
    obtain ⟨s, h1, _, h3⟩ := mv_any h (c := c) (l := c.list.toNat) (by omega) rfl he (fun q => by obtain ⟨_, _, x, hx⟩ := hp.mark (by omega); exact ⟨x, hx⟩)
    obtain ⟨k1, k2, k3⟩ := moves_keep cs (h.step hp) ho.2 (fun x hx => hc x (by simp [hx]))
    have e1 : (m.step c).1 = m.grow.setSeq c.list.toNat s := by rw [h1]
    simp only [runFrom]
    refine ⟨fun k => (k1 k).trans ?_, by rw [k2, e1]; rfl, fun e i q => k3 e i (by rw [e1]; exact q)⟩
    rw [e1]
    show (upd m.seq c.list.toNat s k).Perm _
    by_cases q : k = c.list.toNat
    · subst q; rw [upd_same]; exact h3
    · rw [upd_other _ _ q]
/-- Each element of the first list is in the second one, with its value. -/
def KeepP (E : List Nat) (V : List Vl) (E' : List Nat) (V' : List Vl) : Prop := E'.length = E.length ∧ V.length = E.length ∧ V'.length = E'.length ∧ ∀ (k i : Nat) (x : Vl), E[k]? = some i → V[k]? = some x → i ∈ E' ∧ V'[E'.idxOf i]? = some x
theorem keep_of {m m' : Md} {l : Nat} (h : WF m) (h' : WF m') (hp : (m'.seq l).Perm (m.seq l)) (hv : m'.val = m.val) (hf : ∀ e i, m.fst e = some i → m'.fst e = some i) (hn : ∀ e ∈ m.seq l, ∃ i, m.fst e = some i) :
    KeepP (m.names (m.seq l)) ((m.seq l).map m.val) (m'.names (m'.seq l)) ((m'.seq l).map m'.val) := by
  refine ⟨by rw [names_length, names_length, hp.length_eq], by rw [List.length_map, names_length], by rw [List.length_map, names_length], fun k i x hi hx => ?_⟩
  simp only [Md.names, List.getElem?_map, Option.map_eq_some_iff] at hi hx
  obtain ⟨e, he, rfl⟩ := hi
  obtain ⟨e', he', rfl⟩ := hx
  rw [he] at he'
  simp at he'
  subst he'
  have hem := List.mem_of_getElem? he
  obtain ⟨i, hi⟩ := hn e hem
  have n1 : m.name (m.seq l) e = i := by unfold Md.name; rw [hi]; rfl
  have n2 : m'.name (m'.seq l) e = i := by unfold Md.name; rw [hf e i hi]; rfl
  have hem' : e ∈ m'.seq l := hp.mem_iff.2 hem
  have hg := get_idxOf hem'
  have nd : (m'.names (m'.seq l)).Nodup := by
    unfold Md.names
    refine nodup_map_on (h'.nodup l) (fun a ha b hb q => ?_)
    obtain ⟨ia, hia⟩ := hn a (hp.mem_iff.1 ha)
    obtain ⟨ib, hib⟩ := hn b (hp.mem_iff.1 hb)
    unfold Md.name at q
    rw [hf a ia hia, hf b ib hib] at q
    simp at q
    subst q
    exact fst_inj h hia hib
  have hget : (m'.names (m'.seq l))[(m'.seq l).idxOf e]? = some i := by unfold Md.names; rw [List.getElem?_map, hg, Option.map_some, n2]
  rw [n1]
  refine ⟨List.mem_of_getElem? hget, ?_⟩
  rw [idxOf_of_get nd hget, List.getElem?_map, hg, hv]; rfl

set_option maxHeartbeats 4000000 in
theorem keep1_c {w : World} {s t : SV} {E E' : List Nat} {V V' : List Vl} (h : Reads w s E V) (h' : Reads w t E' V') (hk : KeepP E V E' V') (hn : s.n = t.n) (hE : E.length ≤ 1099511627776) :
    Calls Try.prog 38 #[s.agg, t.agg] w fun r w' => r = .returned (.bool true) ∧ Below w.heap.size w w' := by
  obtain ⟨e, b, v, n⟩ := s
  obtain ⟨e', b', v', n'⟩ := t
  simp only at hn
  subst hn
  simp only [SV.agg]
  have H := Lib.hid h; have H' := Lib.hid h'
  obtain ⟨k1, k2, k3, k4⟩ := hk
  have K1 := Lib.hid k1; have K2 := Lib.hid k2; have K3 := Lib.hid k3; have K4 := Lib.hid k4
  have kq : ((E.length : Int) == (E'.length : Int)) = true := by rw [k1]; simp
  obtain ⟨e1, e2, he⟩ := h.elems.form
  obtain ⟨b1, b2, hb⟩ := h.back.form
  obtain ⟨v1, v2, hv, _⟩ := h.vals
  obtain ⟨e1', e2', he'⟩ := h'.elems.form
  obtain ⟨b1', b2', hb'⟩ := h'.back.form
  obtain ⟨v1', v2', hv', _⟩ := h'.vals
  simp only at he hb hv he' hb' hv'
  subst he hb hv he' hb' hv'
  simp only [List.length_reverse]
  simp only [List.length_reverse] at H H'
  clear h h' k1 k2 k3 k4
  go_enter Try.func38, Try.ntmps38
  go_wp2_with fail
  go_loopg [11] E.length (fun g k wr => ∃ j d, j + g = E.length ∧ k = .int .i64 j ∧ wr = ((w.alloc (.cells #[.slice e1 E.length e2, .slice b1 E.length b2, .slice v1 V.length v2, .int .i64 (n : Nat)] 59)).alloc (.cells #[.slice e1' E'.length e2', .slice b1' E'.length b2', .slice v1' V'.length v2', .int .i64 (n : Nat)] 59)).drewN d)
  case atStart => exact ⟨0, 0, by omega, rfl, rfl⟩
  case round =>
    obtain ⟨j, d, hj, rfl, rfl⟩ := hrel
    by_cases hk0 : gk = 0
    · subst hk0
      obtain rfl : j = E.length := by omega
      clear hj
      go_wp2
      go_ret
      exact ⟨rfl, Below.drewN' (below2 _ _ _) _⟩
    · have hjl : j < E.length := by omega
      obtain ⟨i, hi⟩ : ∃ i, E[j]? = some i := ⟨_, List.getElem?_eq_getElem hjl⟩
      obtain ⟨x, hx⟩ : ∃ x, V[j]? = some x := ⟨_, List.getElem?_eq_getElem (by rw [K2.out]; exact hjl)⟩
      obtain ⟨hm, hx'⟩ := K4.out j i x hi hx
      have hidx : E'.idxOf i < V'.length := (List.getElem?_eq_some_iff.1 hx').1
      have hE' : E'.length ≤ 1099511627776 := by rw [K1.out]; exact hE
      obtain ⟨g1, o1, p1, hv1, cell1⟩ := H.out.elems.cells (by intro q; rw [q] at hi; simp at hi)
      simp only [Value.slice.injEq] at hv1
      obtain ⟨rfl, _, rfl⟩ := hv1
      obtain ⟨g2, o2, p2, hv2, cell2⟩ := Sl.elem Vl.cells_length (by decide) H.out.vals (by intro q; rw [q] at hx; simp at hx)
      simp only [Value.slice.injEq] at hv2
      obtain ⟨rfl, _, rfl⟩ := hv2
      obtain ⟨g3, o3, p3, hv3, cell3⟩ := Sl.elem Vl.cells_length (by decide) H'.out.vals (by intro q; rw [q] at hx'; simp at hx')
      simp only [Value.slice.injEq] at hv3
      obtain ⟨rfl, _, rfl⟩ := hv3
      have c1 := cell1 j i hi
      have l1 := World.block_lt_of_cell? w _ c1
      have d2 : ∀ t y, x.cells[t]? = some y → w.cell? ⟨g2, o2 + j * 3 + t, none⟩ = some y := fun t y hy => by rw [Nat.add_assoc]; exact cell2 j x hx t y hy
      have d3 : ∀ t y, x.cells[t]? = some y → w.cell? ⟨g3, o3 + E'.idxOf i * 3 + t, none⟩ = some y := fun t y hy => by rw [Nat.add_assoc]; exact cell3 _ x hx' t y hy
      have s0 := d2 0 _ rfl; have s1 := d2 1 _ rfl; have s2 := d2 2 _ rfl
      have t0 := d3 0 _ rfl; have t1 := d3 1 _ rfl; have t2 := d3 2 _ rfl
      simp only [Nat.add_zero] at s0 t0
      have l2 := World.block_lt_of_cell? w _ s0
      have l3 := World.block_lt_of_cell? w _ t0
      simp only at l1 l2 l3
      have IX := Lib.hid (fun o o' d => index_c i ((H'.out.elems.later (below2 w o o')).drewN d) (by omega))
      have ez : idxZ E' i = ((E'.idxOf i : Nat) : Int) := by unfold idxZ; rw [if_pos hm]
      rw [ez] at IX
      generalize E'.idxOf i = q at *
      have HJ := Lib.hid hj
      have jv : j < V.length := by rw [K2.out]; exact hjl
      clear hj hi hx hm hx' cell1 cell2 cell3 d2 d3 ez
      go_wp2_with fail
      refine (IX.out _ _ _).mono ?_
      rintro r wz ⟨rfl, rfl⟩
      clear IX
      go_wp2_with fail
      go_quiet (fail)
      go_wp2
      go_roundg (gk - 1)
      case measure => omega
      case rel => exact ⟨j + 1, _, by have := HJ.out; omega, by go_num, rfl⟩

set_option maxHeartbeats 2000000 in
theorem equalKeep_c {w : World} {v1 v2 : Value} {XS YS : List SV} (h1 : Sl w v1 XS.length (XS.flatMap SV.cells)) (h2 : Sl w v2 XS.length (YS.flatMap SV.cells)) (hl : YS.length = XS.length) (hlen : XS.length ≤ 1099511627776)
    (hEq : ∀ (k : Nat) (s t : SV), XS[k]? = some s → YS[k]? = some t → ∃ E V E' V', Reads w s E V ∧ Reads w t E' V' ∧ KeepP E V E' V' ∧ s.n = t.n ∧ E.length ≤ 1099511627776) :
    Calls Try.prog 37 #[v1, v2, .func (.func 38) #[] #[]] w fun r w' => r = .returned (.bool true) ∧ Below w.heap.size w w' := by
  have H1 := Lib.hid h1; have H2 := Lib.hid h2; have HL := Lib.hid hl; have HQ := Lib.hid hEq
  obtain ⟨a1, c1, rfl, _⟩ := h1
  obtain ⟨a2, c2, rfl, _⟩ := h2
  clear hl hEq
  go_enter Try.func37, Try.ntmps37
  go_wp2_with fail
  go_loopg [17] XS.length (fun n k wr => ∃ j, j + n = XS.length ∧ k = .int .i64 j ∧ Below w.heap.size w wr)
  case atStart => exact ⟨0, by omega, rfl, Below.refl _ _⟩
  case round =>
    obtain ⟨j, hj, rfl, hb⟩ := hrel
    by_cases hk0 : gk = 0
    · subst hk0
      obtain rfl : j = XS.length := by omega
      have B := Lib.hid hb
      clear hj hb
      go_wp2
      go_ret
      exact ⟨rfl, B.out⟩
    · have hjl : j < XS.length := by omega
      have hjY : j < YS.length := by rw [HL.out]; exact hjl
      obtain ⟨s, hs⟩ : ∃ s, XS[j]? = some s := ⟨_, List.getElem?_eq_getElem hjl⟩
      obtain ⟨t, ht⟩ : ∃ t, YS[j]? = some t := ⟨_, List.getElem?_eq_getElem hjY⟩
      obtain ⟨E, V, E', V', q1, q2, q0, q3, q4⟩ := HQ.out j s t hs ht
      obtain ⟨b1, o1, p1, hv1, cell1⟩ := H1.out.elem SV.cells_length (by decide) (by intro q; subst q; simp at hjl)
      have H2' : Sl w (.slice a2 XS.length c2) YS.length (YS.flatMap SV.cells) := by rw [HL.out]; exact H2.out
      obtain ⟨b2, o2, p2, hv2, cell2⟩ := H2'.elem SV.cells_length (by decide) (by intro q; subst q; simp at hjY)
      rw [HL.out] at hv2
      simp only [Value.slice.injEq] at hv1 hv2
      obtain ⟨rfl, _, rfl⟩ := hv1
      obtain ⟨rfl, _, rfl⟩ := hv2
      have hb1 : b1 < w.heap.size := World.block_lt_of_cell? w ⟨b1, o1 + (j * 4 + 0), none⟩ (cell1 j s hs 0 _ rfl)
      have hb2 : b2 < w.heap.size := World.block_lt_of_cell? w ⟨b2, o2 + (j * 4 + 0), none⟩ (cell2 j t ht 0 _ rfl)
      have hsz := hb.size
      have hb2' : b2 < wr.heap.size := Nat.lt_of_lt_of_le hb2 hsz
      have SM := Lib.hid (fun o o' => keep1_c (q1.later (below_alloc2 hb o o')) (q2.later (below_alloc2 hb o o')) q0 q3 q4)
      obtain ⟨se, sb, sv, sn⟩ := s
      obtain ⟨te, tb, tv, tn⟩ := t
      simp only at q3
      subst q3
      obtain ⟨e1, e2, he⟩ := q1.elems.form
      obtain ⟨x1, x2, hx⟩ := q1.back.form
      obtain ⟨v1, v2, hv, _⟩ := q1.vals
      obtain ⟨e1', e2', he'⟩ := q2.elems.form
      obtain ⟨x1', x2', hx'⟩ := q2.back.form
      obtain ⟨v1', v2', hv', _⟩ := q2.vals
      simp only at he hx hv he' hx' hv'
      subst he hx hv he' hx' hv'
      have d1 : ∀ t y, (SV.mk (.slice e1 E.length e2) (.slice x1 E.reverse.length x2) (.slice v1 V.length v2) sn).cells[t]? = some y → wr.cell? ⟨b1, o1 + j * 4 + t, none⟩ = some y := fun t y hy => by
        rw [hb.cell (p := ⟨b1, o1 + j * 4 + t, none⟩) hb1, Nat.add_assoc]; exact cell1 j _ hs t y hy
      have d2 : ∀ t y, (SV.mk (.slice e1' E'.length e2') (.slice x1' E'.reverse.length x2') (.slice v1' V'.length v2') sn).cells[t]? = some y → wr.cell? ⟨b2, o2 + j * 4 + t, none⟩ = some y := fun t y hy => by
        rw [hb.cell (p := ⟨b2, o2 + j * 4 + t, none⟩) hb2, Nat.add_assoc]; exact cell2 j _ ht t y hy
      have s0 := d1 0 _ rfl; have s1 := d1 1 _ rfl; have s2 := d1 2 _ rfl; have s3 := d1 3 _ rfl
      have t0 := d2 0 _ rfl; have t1 := d2 1 _ rfl; have t2 := d2 2 _ rfl; have t3 := d2 3 _ rfl
      simp only [Nat.add_zero, SV.agg, List.length_reverse] at s0 t0 s1 t1 SM
      have B := Lib.hid hb; have HJ := Lib.hid hj
      clear hb hj q0 q1 q2 d1 d2 cell1 cell2 hs ht H2' hjY
      go_wp2_with fail
      refine (SM.out _ _).mono ?_
      rintro r w1 ⟨rfl, hbs⟩
      have B1 := Lib.hid ((below_alloc2 B.out _ _).trans (hbs.mono (by have := B.out.size; simp; omega)))
      clear hbs SM s0 s1 s2 s3 t0 t1 t2 t3
      go_wp2
      go_roundg (gk - 1)
      case measure => omega
      case rel => exact ⟨j + 1, by have := HJ.out; omega, by go_num, B1.out⟩

set_option maxHeartbeats 4000000 in
theorem keeps_c {w : World} {v v2 : Value} {cs ls : List Cl} (s : Scr w v cs) (s2 : Scr w v2 ls) (hn : cs.length + ls.length ≤ 1048576) :
    Calls Try.prog 10 #[v, v2] w fun r w' => r = .returned (.bool true) ∧ Below w.heap.size w w' := by
  have PM := Lib.hid (permittedL_c s.sl (by omega))
  have S := Lib.hid s; have T := Lib.hid s2
  obtain ⟨z1, z2, rfl⟩ := s2.form
  clear s s2
  go_enter Try.func10, Try.ntmps10
  go_wp2_with fail
  refine PM.out.mono ?_
  rintro r w1 ⟨rfl, hb1⟩
  have B1 := Lib.hid hb1
  clear hb1 PM
  cases hok : okFrom 500 Md.init cs with
  | false =>
    clear hok
    go_wp2
    go_ret
    exact ⟨rfl, B1.out⟩
  | true =>
    have NM := Lib.hid (named_c (S.out.later B1.out) hok (by omega))
    obtain ⟨n1, n2, n3, n4⟩ := named_all hok (by omega)
    have N1 := Lib.hid n1; have N2 := Lib.hid n2; have N3 := Lib.hid n3
    clear hok n1 n2 n3
    go_wp2_with fail
    refine NM.out.mono ?_
    rintro r w2 ⟨vs, rfl, s2, hb2⟩
    have B2 := Lib.hid (B1.out.trans (hb2.mono B1.out.size))
    generalize hns : namedC cs = ns at *
    have TH := Lib.hid (then_c s2.sl (T.out.later B2.out).sl s2.fair T.out.fair (by omega))
    have S2 := Lib.hid s2; have T2 := Lib.hid (T.out.later B2.out)
    clear hns s2 hb2 NM
    go_wp2_with fail
    refine TH.out.mono ?_
    rintro r w3 ⟨vt, rfl, r3, hb3⟩
    have B3 := Lib.hid (B2.out.trans (hb3.mono B2.out.size))
    have S3 := Lib.hid (S2.out.later hb3); have T3 := Lib.hid (T2.out.later hb3)
    have PM := Lib.hid (permittedL_c (Sl.of_own r3) (by rw [List.length_append]; omega))
    clear r3 hb3 TH
    go_wp2_with fail
    refine PM.out.mono ?_
    rintro r w4 ⟨rfl, hb4⟩
    have B4 := Lib.hid (B3.out.trans (hb4.mono B3.out.size))
    have S4 := Lib.hid (S3.out.later hb4); have T4 := Lib.hid (T3.out.later hb4)
    clear hb4 PM
    cases hok2 : okFrom 500 Md.init (ns ++ ls) with
    | false =>
      clear hok2
      go_wp2
      go_ret
      exact ⟨rfl, B4.out⟩
    | true =>
      have OK2 := Lib.hid hok2
      clear hok2
      go_wp2_with fail
      go_loopg [24] ls.length (fun n k wr => ∃ j, j + n = ls.length ∧ k = .int .i64 j ∧ Below w4.heap.size w4 wr ∧ ∀ c ∈ ls.take j, 7 ≤ c.op ∧ c.op ≤ 10)
      case atStart => exact ⟨0, by omega, rfl, Below.refl _ _, by simp⟩
      case round =>
        obtain ⟨j, hj, rfl, hb, hops⟩ := hrel
        have HO := Lib.hid hops
        clear hops
        by_cases hk0 : gk = 0
        · subst hk0
          obtain rfl : j = ls.length := by omega
          have hall : ∀ c ∈ ls, 7 ≤ c.op ∧ c.op ≤ 10 := by have := HO.out; rw [List.take_length] at this; exact this
          have okl : okFrom 500 (runFrom Md.init ns) ls = true := by have := OK2.out; rw [okFrom_append] at this; simp only [Bool.and_eq_true] at this; exact this.2
          have mv := Lib.hid (moves_keep ls N2.out okl hall)
          have B5 := Lib.hid (B4.out.trans (hb.mono B4.out.size))
          have S5 := Lib.hid (S4.out.later hb); have T5 := Lib.hid (T4.out.later hb)
          have AA := Lib.hid (all_c S5.out S5.out N1.out (fun l hl => mem_lists l hl) (by decide) (by omega) (by omega))
          clear hb hj hall okl
          go_wp2_with fail
          refine AA.out.mono ?_
          rintro r w6 ⟨vx, XS, rfl, hX⟩
          have HX := Lib.hid hX
          have TH := Lib.hid (then_c (S5.out.later hX.below).sl (T5.out.later hX.below).sl S5.out.fair T5.out.fair (by omega))
          clear hX AA
          go_wp2_with fail
          refine TH.out.mono ?_
          rintro r w7 ⟨vt2, rfl, r7, hb7⟩
          have SR := Scr.of_own r7 (fun c hc => by rcases List.mem_append.1 hc with q | q; exact S4.out.ok c q; exact T4.out.ok c q)
          have AB := Lib.hid (all_c ((S5.out.later HX.out.below).later hb7) SR OK2.out (fun l hl => by rw [runFrom_append]; exact run_isL_mono ls (mem_lists l hl)) (by decide) (by omega) (by rw [List.length_append]; omega))
          have HB7 := Lib.hid hb7
          clear SR r7 hb7 TH
          go_wp2_with fail
          refine AB.out.mono ?_
          rintro r w8 ⟨vy, YS, rfl, hY⟩
          have hXb := HB7.out.trans (hY.below.mono HB7.out.size)
          have EF := Lib.hid (equalKeep_c (w := w8) (v1 := vx) (v2 := vy) (XS := XS) (YS := YS) ((Sl.of_own (by rw [HX.out.len]; exact HX.out.own)).later hXb) (by rw [HX.out.len]; exact Sl.of_own hY.own) (by rw [HX.out.len, hY.len]) (by rw [HX.out.len]; have : (listsOf ns).length ≤ ns.length := listsAt_length ns 0; omega) (fun k s t hs ht => by
            have hk : k < (listsOf ns).length := by have := (List.getElem?_eq_some_iff.1 hs).1; rw [HX.out.len] at this; exact this
            have h1 := (HX.out.seen k _ s (List.getElem?_eq_getElem hk) hs).later hXb
            have h2 := hY.seen k _ t (List.getElem?_eq_getElem hk) ht
            have hp := mv.out
            rw [runFrom_append] at h2
            refine ⟨_, _, _, _, h1.reads, h2.reads, ?_, by rw [h1.n, h2.n]; exact ((hp.1 _).length_eq).symm, ?_⟩
            · exact keep_of N2.out (WF.run ls N2.out (by have := OK2.out; rw [okFrom_append] at this; simp only [Bool.and_eq_true] at this; exact this.2)) (hp.1 _) hp.2.1 hp.2.2 (fun e he => N3.out _ e he)
            · rw [names_length]
              have := N2.out.seq_le (listsOf ns)[k]
              have := run_cnt_le _ N1.out (by simp [Md.init])
              omega))
          have B8 := Lib.hid (B5.out.trans ((HX.out.below.trans (hXb.mono HX.out.below.size)).mono B5.out.size))
          clear hY AB hXb
          go_wp2_with fail
          refine EF.out.mono ?_
          rintro r w9 ⟨rfl, hb9⟩
          have B9 := Lib.hid (B8.out.trans (hb9.mono B8.out.size))
          clear hb9 EF
          go_wp2
          go_ret
          exact ⟨rfl, B9.out⟩
        · have hjl : j < ls.length := by omega
          obtain ⟨c, hget⟩ : ∃ c, ls[j]? = some c := ⟨_, List.getElem?_eq_getElem hjl⟩
          have hne : ls ≠ [] := by intro q; subst q; simp at hjl
          obtain ⟨b, off, cp, hv, hcell⟩ := T4.out.sl.elem Cl.cells_length (by decide) hne
          simp only [Value.slice.injEq] at hv
          obtain ⟨rfl, _, rfl⟩ := hv
          have hbw : b < w4.heap.size := World.block_lt_of_cell? w4 ⟨b, off + (j * 8 + 0), none⟩ (hcell j c hget 0 _ rfl)
          have cc : ∀ t y, c.cells[t]? = some y → wr.cell? ⟨b, off + j * 8 + t, none⟩ = some y := fun t y hy => by
            rw [hb.cell (p := ⟨b, off + j * 8 + t, none⟩) hbw, Nat.add_assoc]; exact hcell j c hget t y hy
          have e0 := cc 0 _ rfl; have e1 := cc 1 _ rfl; have e2 := cc 2 _ rfl; have e3 := cc 3 _ rfl; have e4 := cc 4 _ rfl; have e5 := cc 5 _ rfl; have e6 := cc 6 _ rfl; have e7 := cc 7 _ rfl
          simp only [Nat.add_zero] at e0
          have HB := Lib.hid (fun o => hb.alloc hb.size o); have HJ := Lib.hid hj
          have FB := Lib.hid (fun o => B4.out.trans ((hb.alloc hb.size o).mono B4.out.size))
          by_cases hop : 7 ≤ c.op ∧ c.op ≤ 10
          · have NX : Hid (∀ x ∈ ls.take (j + 1), 7 ≤ x.op ∧ x.op ≤ 10) := fun x hx => by
              obtain ⟨hj', e⟩ := List.getElem?_eq_some_iff.1 hget
              rw [List.take_succ_eq_append_getElem hj', e] at hx
              rcases List.mem_append.1 hx with q | q
              · exact HO.out x q
              · simp at q; subst q; exact hop
            have q1 : decide (c.op < 7) = false := by simp; omega
            have q2 : decide (10 < c.op) = false := by simp; omega
            generalize c.op = op at *
            clear hb hget hj cc hcell hne hop
            go_wp2
            go_roundg (gk - 1)
            case measure => omega
            case rel => exact ⟨j + 1, by have := HJ.out; omega, by go_num, HB.out _, NX.out⟩
          · by_cases hlo : c.op < 7
            · generalize c.op = op at *
              clear hb hget hj cc hcell hne hop
              go_wp2
              go_ret
              exact ⟨rfl, FB.out _⟩
            · have hhi : 10 < c.op := by omega
              generalize c.op = op at *
              clear hb hget hj cc hcell hne hop
              go_wp2
              go_ret
              exact ⟨rfl, FB.out _⟩
end Bead
end Go.Proofs.Ytbpbbmamgajimaa
