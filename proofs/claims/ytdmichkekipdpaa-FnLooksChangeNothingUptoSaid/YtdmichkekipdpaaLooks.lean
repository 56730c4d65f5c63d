/- FnLooksChangeNothing returns true. -/
import Derived.Test.YtdmichkekipdpaaScene
set_option linter.all false
namespace Go.Proofs.Ytdmichkekipdpaa
open Go.RowKit
namespace Bead
set_option maxRecDepth 100000

theorem named_all {cs : List Cl} (ho : okFrom 500 Md.init cs = true) (hlen : cs.length ≤ 1048576) :
    okFrom 500 Md.init (namedC cs) = true ∧ WF (runFrom Md.init (namedC cs)) ∧ (∀ k e, e ∈ (runFrom Md.init (namedC cs)).seq k → ∃ i, (runFrom Md.init (namedC cs)).fst e = some i) ∧ (namedC cs).length ≤ 600000000 := by
  rcases q : listsOf cs with _ | ⟨l, r⟩
  · have e : namedC cs = cs := by unfold namedC; rw [q]; simp [Md.tour]
    rw [e]
    have hw := WF.run cs WF.init ho
    refine ⟨ho, hw, fun k f hf => ?_, by omega⟩
    have := (listsOf_iff cs k).2 (hw.isL_of_mem hf)
    rw [q] at this; simp at this
  · have h := named_scene ho hlen (l := l) (by rw [q]; simp)
    exact ⟨h.ok, h.wf, h.named, h.len⟩

theorem answer_ext {m : Md} (o : Option Nat) (h : m.ret m.len = none) : Ext m (m.grow.answer m.len o).1 := by
  cases o with
  | none => exact grow_ext m
  | some e =>
    refine ⟨rfl, rfl, rfl, rfl, rfl, rfl, Nat.le_succ _, fun i hi => ?_, fun x i q => ?_⟩
    · show upd m.ret m.len (some e) i = _
      rw [upd_other _ _ (by omega)]
    · show upd m.fst e _ x = _
      by_cases z : x = e
      · subst z
        rw [upd_same]
        show some ((m.fst x).getD _) = _
        rw [q]; rfl
      · rw [upd_other _ _ z]; exact q
theorem look_ext {m : Md} (h : WF m) {c : Cl} {most : Nat} (hp : Permitted most m c) (h1 : 15 ≤ c.op) (h2 : c.op ≤ 20) : Ext m (m.step c).1 := by
  have hr := ret_none h (Nat.le_refl m.len)
  rcases (show c.op = 15 ∨ c.op = 16 ∨ c.op = 17 ∨ c.op = 18 ∨ c.op = 19 ∨ c.op = 20 by omega) with q | q | q | q | q | q
  · rw [step_15 m q]; exact answer_ext _ hr
  · rw [step_16 m q]; exact answer_ext _ hr
  · rw [step_17 m q]; exact grow_ext m
  · obtain ⟨_, _, e, he⟩ := hp.elem (by omega)
    rw [step_18 m q he]; exact answer_ext _ hr
  · obtain ⟨_, _, e, he⟩ := hp.elem (by omega)
    rw [step_19 m q he]; exact answer_ext _ hr
  · obtain ⟨_, _, e, he⟩ := hp.elem (by omega)
    rw [step_20 m q he]; exact grow_ext m
theorem looks_ext {most : Nat} : ∀ (cs : List Cl) {m : Md}, WF m → okFrom most m cs = true → (∀ c ∈ cs, 15 ≤ c.op ∧ c.op ≤ 20) → Ext m (runFrom m cs)
  | [], m, _, _, _ => Ext.refl m
  | c :: cs, m, h, ho, hc => by
    simp only [okFrom, Bool.and_eq_true] at ho
    have hp := (permitted_iff _ _ _).1 ho.1
    exact (look_ext h hp (hc c (by simp)).1 (hc c (by simp)).2).trans (looks_ext cs (h.step hp) ho.2 (fun x hx => hc x (by simp [hx])))

set_option maxHeartbeats 4000000 in
theorem looks_c {w : World} {v v2 : Value} {cs ls : List Cl} (s : Scr w v cs) (s2 : Scr w v2 ls) (hn : cs.length + ls.length ≤ 1048576) :
    Calls Try.prog 3 #[v, v2] w fun r w' => r = .returned (.bool true) ∧ Below w.heap.size w w' := by
  have PM := Lib.hid (permittedL_c s.sl (by omega))
  have S := Lib.hid s; have T := Lib.hid s2
  obtain ⟨z1, z2, rfl⟩ := s2.form
  clear s s2
  go_enter Try.func3, Try.ntmps3
  go_wp2_with fail
  refine PM.out.mono ?_
  rintro r w1 ⟨rfl, hb1⟩
  have B1 := Lib.hid hb1
  clear hb1 PM
  cases hok : okFrom 500 Md.init cs with
  | false =>
    clear hok
    go_wp2
    go_ret
    exact ⟨rfl, B1.out⟩
  | true =>
    have NM := Lib.hid (named_c (S.out.later B1.out) hok (by omega))
    obtain ⟨n1, n2, n3, n4⟩ := named_all hok (by omega)
    have N1 := Lib.hid n1; have N2 := Lib.hid n2; have N3 := Lib.hid n3
    clear hok n1 n2 n3
    go_wp2_with fail
    refine NM.out.mono ?_
    rintro r w2 ⟨vs, rfl, s2, hb2⟩
    have B2 := Lib.hid (B1.out.trans (hb2.mono B1.out.size))
    generalize hns : namedC cs = ns at *
    have TH := Lib.hid (then_c s2.sl (T.out.later B2.out).sl s2.fair T.out.fair (by omega))
    have S2 := Lib.hid s2; have T2 := Lib.hid (T.out.later B2.out)
    clear hns s2 hb2 NM
    go_wp2_with fail
    refine TH.out.mono ?_
    rintro r w3 ⟨vt, rfl, r3, hb3⟩
    have B3 := Lib.hid (B2.out.trans (hb3.mono B2.out.size))
    have S3 := Lib.hid (S2.out.later hb3); have T3 := Lib.hid (T2.out.later hb3)
    have PM := Lib.hid (permittedL_c (Sl.of_own r3) (by rw [List.length_append]; omega))
    clear r3 hb3 TH
    go_wp2_with fail
    refine PM.out.mono ?_
    rintro r w4 ⟨rfl, hb4⟩
    have B4 := Lib.hid (B3.out.trans (hb4.mono B3.out.size))
    have S4 := Lib.hid (S3.out.later hb4); have T4 := Lib.hid (T3.out.later hb4)
    clear hb4 PM
    cases hok2 : okFrom 500 Md.init (ns ++ ls) with
    | false =>
      clear hok2
      go_wp2
      go_ret
      exact ⟨rfl, B4.out⟩
    | true =>
      have OK2 := Lib.hid hok2
      clear hok2
      go_wp2_with fail
      go_loopg [20] ls.length (fun n k wr => ∃ j, j + n = ls.length ∧ k = .int .i64 j ∧ Below w4.heap.size w4 wr ∧ ∀ c ∈ ls.take j, 15 ≤ c.op ∧ c.op ≤ 20)
      case atStart => exact ⟨0, by omega, rfl, Below.refl _ _, by simp⟩
      case round =>
        obtain ⟨j, hj, rfl, hb, hops⟩ := hrel
        have HO := Lib.hid hops
        clear hops
        by_cases hk0 : gk = 0
        · subst hk0
          obtain rfl : j = ls.length := by omega
          have TH := Lib.hid (then_c (S4.out.later hb).sl (T4.out.later hb).sl S4.out.fair T4.out.fair (by omega))
          have B5 := Lib.hid (B4.out.trans (hb.mono B4.out.size))
          have S5 := Lib.hid (S4.out.later hb)
          clear hb hj
          go_wp2_with fail
          refine TH.out.mono ?_
          rintro r w6 ⟨v6, rfl, r6, hb6⟩
          have hall : ∀ c ∈ ls, 15 ≤ c.op ∧ c.op ≤ 20 := by have := HO.out; rw [List.take_length] at this; exact this
          have okl : okFrom 500 (runFrom Md.init ns) ls = true := by have := OK2.out; rw [okFrom_append] at this; simp only [Bool.and_eq_true] at this; exact this.2
          have ex := looks_ext ls N2.out okl hall
          have SR := Scr.of_own r6 (fun c hc => by rcases List.mem_append.1 hc with q | q; exact S4.out.ok c q; exact T4.out.ok c q)
          have AL := Lib.hid (alike_c (S5.out.later hb6) (S5.out.later hb6) SR N1.out OK2.out (fun l hl => mem_lists l hl) (fun l hl => by rw [runFrom_append]; exact run_isL_mono ls (mem_lists l hl))
            (fun l _ => by
              rw [runFrom_append]
              exact ⟨by rw [ex.seq], fun e _ => by rw [ex.val], fun e he => by obtain ⟨i, hi⟩ := N3.out l e he; exact ⟨i, hi, ex.fst e i hi⟩⟩) (by decide) (by omega) (by omega) (by rw [List.length_append]; omega))
          have B6 := Lib.hid (B5.out.trans (hb6.mono B5.out.size))
          clear hall okl ex SR r6 hb6 TH
          go_wp2_with fail
          refine AL.out.mono ?_
          rintro r w7 ⟨rfl, hb7⟩
          have B7 := Lib.hid (B6.out.trans (hb7.mono B6.out.size))
          clear hb7 AL
          go_wp2
          go_ret
          exact ⟨rfl, B7.out⟩
        · have hjl : j < ls.length := by omega
          obtain ⟨c, hget⟩ : ∃ c, ls[j]? = some c := ⟨_, List.getElem?_eq_getElem hjl⟩
          have hne : ls ≠ [] := by intro q; subst q; simp at hjl
          obtain ⟨b, off, cp, hv, hcell⟩ := T4.out.sl.elem Cl.cells_length (by decide) hne
          simp only [Value.slice.injEq] at hv
          obtain ⟨rfl, _, rfl⟩ := hv
          have hbw : b < w4.heap.size := World.block_lt_of_cell? w4 ⟨b, off + (j * 8 + 0), none⟩ (hcell j c hget 0 _ rfl)
          have cc : ∀ t y, c.cells[t]? = some y → wr.cell? ⟨b, off + j * 8 + t, none⟩ = some y := fun t y hy => by
            rw [hb.cell (p := ⟨b, off + j * 8 + t, none⟩) hbw, Nat.add_assoc]; exact hcell j c hget t y hy
          have e0 := cc 0 _ rfl; have e1 := cc 1 _ rfl; have e2 := cc 2 _ rfl; have e3 := cc 3 _ rfl; have e4 := cc 4 _ rfl; have e5 := cc 5 _ rfl; have e6 := cc 6 _ rfl; have e7 := cc 7 _ rfl
          simp only [Nat.add_zero] at e0
          have HB := Lib.hid (fun o => hb.alloc hb.size o); have HJ := Lib.hid hj
          have FB := Lib.hid (fun o => B4.out.trans ((hb.alloc hb.size o).mono B4.out.size))
          by_cases hop : 15 ≤ c.op ∧ c.op ≤ 20
          · have NX : Hid (∀ x ∈ ls.take (j + 1), 15 ≤ x.op ∧ x.op ≤ 20) := fun x hx => by
              obtain ⟨hj', e⟩ := List.getElem?_eq_some_iff.1 hget
              rw [List.take_succ_eq_append_getElem hj', e] at hx
              rcases List.mem_append.1 hx with q | q
              · exact HO.out x q
              · simp at q; subst q; exact hop
            have q1 : decide (c.op < 15) = false := by simp; omega
            have q2 : decide (20 < c.op) = false := by simp; omega
            generalize c.op = op at *
            clear hb hget hj cc hcell hne hop
            go_wp2
            go_roundg (gk - 1)
            case measure => omega
            case rel => exact ⟨j + 1, by have := HJ.out; omega, by go_num, HB.out _, NX.out⟩
          · by_cases hlo : c.op < 15
            · generalize c.op = op at *
              clear hb hget hj cc hcell hne hop
              go_wp2
              go_ret
              exact ⟨rfl, FB.out _⟩
            · have hhi : 20 < c.op := by omega
              generalize c.op = op at *
              clear hb hget hj cc hcell hne hop
              go_wp2
              go_ret
              exact ⟨rfl, FB.out _⟩
end Bead
end Go.Proofs.Ytdmichkekipdpaa
