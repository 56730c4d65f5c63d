/- The contract of the reference's Play: the walk. -/
import Derived.Test.YtidnmanljdadaaaSpec15
set_option linter.all false
namespace Go.Proofs.Ytidnmanljdadaaa
open Go.RowKit
namespace Bead
set_option maxRecDepth 100000

theorem Try.infoSAnswer : (Try.prog.info? 84).map (fun i => (i.zero, i.size, i.bytes)) = some (some (.agg #[.int .i64 0, .int .i64 0, .int .i64 0, .int .i64 0, .string ⟨#[]⟩]), 5, 48) := by kernel_rfl

/-- What the reference's Play returns. -/
def SPlayed (w : World) (cs : List Cl) (r : Ending) (w' : World) : Prop :=
  Below w.heap.size w w' ∧ ((okFrom 500 Md.init cs = true ∧ ∃ a o, r = .returned (.tuple #[a, o, .bool true]) ∧ w'.ownsRow w.heap.size 84 5 a cs.length ((ansFrom Md.init cs).flatMap An.cells) ∧ w'.ownsRow w.heap.size 4 1 o cs.length (bools (openFrom Md.init cs))) ∨
    (okFrom 500 Md.init cs = false ∧ r = .returned (.tuple #[.slice none 0 0, .slice none 0 0, .bool false])))

theorem not_ok {cs : List Cl} {j : Nat} {c : Cl} (hc : cs[j]? = some c) (h : okFrom 500 Md.init (cs.take j) = true) (hp : (runFrom Md.init (cs.take j)).permitted 500 c = false) : okFrom 500 Md.init cs = false := by
  have hj := List.getElem?_eq_some_iff.1 hc
  have hd : cs = cs.take j ++ c :: cs.drop (j + 1) := by rw [← hj.2, ← List.drop_eq_getElem_cons hj.1, List.take_append_drop]
  rw [hd, okFrom_append, h]
  simp [okFrom, hp]
theorem is_ok {cs : List Cl} {j : Nat} {c : Cl} (hc : cs[j]? = some c) (h : okFrom 500 Md.init (cs.take j) = true) (hp : (runFrom Md.init (cs.take j)).permitted 500 c = true) : okFrom 500 Md.init (cs.take (j + 1)) = true := by
  have hj := List.getElem?_eq_some_iff.1 hc
  rw [List.take_succ_eq_append_getElem hj.1, hj.2, okFrom_append, h]
  simp [okFrom, hp]

theorem SP.keeps {w W : World} {B g : Nat} {F : Nat → Prop} {m : Md} (h : SP w W B g F m) : Keeps F w W := by
  obtain ⟨_, _, _, k⟩ := h; exact k
theorem ST.bounds {w : World} {B g : Nat} {F : Nat → Prop} {m : Md} (h : ST w B g F m) : ∀ k, F k → B ≤ k ∧ k < w.heap.size := by
  obtain ⟨_, _, _, _, _, _, _, k⟩ := h; exact k
theorem isL_len {m : Md} (hw : WF m) : m.isL m.len = false := by
  cases q : m.isL m.len with
  | false => rfl
  | true => have := hw.isl _ q; omega
theorem ret_len {m : Md} (hw : WF m) : m.ret m.len = none := by
  cases q : m.ret m.len with
  | none => rfl
  | some e => have := (hw.rlt _ e q).1; omega

set_option maxHeartbeats 2000000 in
theorem splay_c {w : World} {v : Value} {cs : List Cl} (hs : Sl w v cs.length (cs.flatMap Cl.cells)) (hlen : cs.length ≤ 1099511627776) :
    Calls Try.prog 36 #[v] w (SPlayed w cs) := by
  have HSL := Lib.hid hs
  obtain ⟨sa, scap, rfl, _⟩ := hs
  have START := Lib.hid (PAt.start w cs)
  go_enter Try.func36, Try.ntmps36
  go_wp2_with fail
  go_loopg [2, 3, 12] cs.length (fun n ans opn k wr => ∃ j, j + n = cs.length ∧ k = .int .i64 j ∧ PAt w wr w.heap.size j cs ans opn)
  case atStart => exact ⟨0, by omega, rfl, START.out⟩
  case round =>
    clear START
    obtain ⟨j, hj, rfl, hP⟩ := hrel
    by_cases hk0 : gk = 0
    · subst hk0
      obtain rfl : j = cs.length := by omega
      have FIN : Hid (SPlayed w cs (.returned (.tuple #[u2, u3, .bool true])) wr) := by
        have a := hP.rowA; have o := hP.rowO; have k := hP.ok
        rw [List.take_length] at a o k
        exact ⟨hP.below, .inl ⟨k, _, _, rfl, a, o⟩⟩
      clear hP hj HSL
      go_wp2
      go_ret3
      exact FIN.out
    · have hjl : j < cs.length := by omega
      obtain ⟨c, hget⟩ : ∃ c, cs[j]? = some c := ⟨_, List.getElem?_eq_getElem hjl⟩
      have hne : cs ≠ [] := by intro q; subst q; simp at hjl
      obtain ⟨b, off, cp, hv, hcell⟩ := HSL.out.elem Cl.cells_length (by decide) hne
      simp only [Value.slice.injEq] at hv
      obtain ⟨rfl, _, rfl⟩ := hv
      have hbw : b < w.heap.size := World.block_lt_of_cell? w ⟨b, off + (j * 8 + 0), none⟩ (hcell j c hget 0 _ rfl)
      have cc : ∀ t y, c.cells[t]? = some y → wr.cell? ⟨b, off + j * 8 + t, none⟩ = some y := fun t y hy => by
        rw [hP.below.cell (p := ⟨b, off + j * 8 + t, none⟩) hbw, Nat.add_assoc]; exact hcell j c hget t y hy
      have e0 := cc 0 _ rfl; have e1 := cc 1 _ rfl; have e2 := cc 2 _ rfl; have e3 := cc 3 _ rfl; have e4 := cc 4 _ rfl; have e5 := cc 5 _ rfl; have e6 := cc 6 _ rfl; have e7 := cc 7 _ rfl
      simp only [Nat.add_zero] at e0
      obtain ⟨F, hst, hFo, hFa⟩ := hP.st
      have hwf : WF (runFrom Md.init (cs.take j)) := WF.run _ WF.init hP.ok
      have hmlen : (runFrom Md.init (cs.take j)).len = j := by rw [run_len, List.length_take]; simp [Md.init]; omega
      have hcnt : (runFrom Md.init (cs.take j)).cnt ≤ 500 := cnt_run (cs.take j) Md.init hP.ok (by simp [Md.init])
      have hsq : ∀ l, ((runFrom Md.init (cs.take j)).seq l).length ≤ 500 := fun l => Nat.le_trans (len_le_cnt hwf l) hcnt
      obtain ⟨v0, v1, v2, v3, ls, hsr, hf, hF⟩ := hst
      have hFB : ∀ k, F k → w.heap.size ≤ k := fun k q => (hF k q).1
      have PC := Lib.hid (permitted_c (hsr.alloc (.cells c.arr 79)) hwf c (by omega) (by omega) (fun l => Nat.le_trans (hsq l) (by decide)))
      have HP := Lib.hid hP; have HG := Lib.hid hget; have HJ := Lib.hid hj; have HSR := Lib.hid hsr; have HFF := Lib.hid hf; have HF2 := Lib.hid hF; have HFO := Lib.hid hFo; have HFA := Lib.hid hFa; have HWF := Lib.hid hwf; have HFB := Lib.hid hFB
      have HSQ := Lib.hid hsq; have HCN := Lib.hid hcnt; have HML := Lib.hid hmlen
      have hszr := hP.below.size
      clear hP hget hj hsr hf hF hFo hFa hwf cc hcell hsq hcnt hmlen hFB
      generalize hm : runFrom Md.init (cs.take j) = m at *
      have HM := Lib.hid hm
      clear hm
      unfold Cl.agg' at PC
      simp only [Cl.arr] at PC
      go_wp2_with fail
      refine PC.out.mono ?_
      rintro r w1 ⟨rfl, hb1⟩
      have HB1 : Hid (Below wr.heap.size wr w1) := (below1 wr _).trans (hb1.mono (by simp))
      have hbox : w1.heap[wr.heap.size]? = some (.cells c.arr 79 (0, 0)) := by
        rw [hb1.block wr.heap.size (by simp)]; exact heap_alloc_new wr _
      have HBOX := Lib.hid hbox
      have sz1 : wr.heap.size < w1.heap.size := (Array.getElem?_eq_some_iff.1 hbox).1
      clear hb1 hbox PC
      cases hperm : m.permitted 500 c with
      | false =>
        have FIN : Hid (SPlayed w cs (.returned (.tuple #[.slice none 0 0, .slice none 0 0, .bool false])) w1) :=
          ⟨HP.out.below.trans (HB1.out.mono HP.out.below.size), .inr ⟨not_ok HG.out HP.out.ok (by rw [HM.out]; exact hperm), rfl⟩⟩
        go_wp2
        go_ret3
        exact FIN.out
      | true =>
        have HPM := Lib.hid ((permitted_iff _ _ _).1 hperm)
        have OK1 := Lib.hid (is_ok HG.out HP.out.ok (by rw [HM.out]; exact hperm))
        clear hperm
        have hgrow : (w.heap.size : Nat) < wr.heap.size := (HSR.out.lt (.inl rfl)).2
        have hmj : m.len = j := HML.out
        have hmle : m.len ≤ 1099511627776 := by omega
        have HNF : Hid (¬ F wr.heap.size) := fun q => by have := (HF2.out _ q).2; omega
        have FT : Hid (∀ k, Foot w.heap.size v0 v1 v2 v3 k → F k ∨ w1.heap.size ≤ k) := fun k q => .inl (HFF.out k q)
        have HFg : Hid (F w.heap.size) := HFF.out _ (.inl rfl)
        have IL := Lib.hid (isL_len HWF.out)
        have RL := Lib.hid (ret_len HWF.out)
        have S1 := Lib.hid (HSR.out.below HB1.out).sq
        obtain ⟨k0, k1, k2, kz⟩ := S1.out.c
        clear hmj
        go_upto_region 8 with (at_builtin; refine wpList_app2 rfl (.tmp 25) (.tmp 26) 23 rfl w.heap.size 4 _ 1 1 Try.underlying23 Try.infoBool rfl (by decide) _ m.len _ rfl (S1.out.r0.alloc _) _ 1 [.bool false] rfl (sl_new _ _ _ _ _) rfl (by simp [Value.oneCell']) (.inr (.inr (by decide))) (by omega) (by decide) (by simp; omega) ?_; intro x0 wn hown hg hn; obtain ⟨xa, xc, rfl⟩ := own_len hown; have Q0 := Lib.hid (SQ.app0 (S1.out.below (below1 _ _)) hown hg IL.out); have FT0 := Lib.hid (foot0 FT.out hn (by simp)); have K0 := Lib.hid (keep_next (o := 0) (y := .slice xa (m.len + 1) xc) (Keeps.refl F w1) HFg.out (below1 _ _) hg (fun k q => FT.out k (.inr (.inl q)))); have pcn := app_pc (S1.out.below (below1 _ _)) (row := none) (S1.out.r0.alloc _) (by decide) hg; have cst := cell_of_heap (o := 0) pcn rfl; have fst := free_of_heap (o := 0) pcn; clear hown hg hn pcn)
        clear cst fst k0 k1 k2 kz
        generalize wn.setCell _ _ = W7 at *
        obtain ⟨k0, k1, k2, kz⟩ := Q0.out.c
        have sz7 := K0.out.size
        go_upto_region 9 with (at_builtin; refine wpList_app2 rfl (.tmp 34) (.tmp 35) 101 rfl w.heap.size 27 _ 1 24 Try.underlying101 Try.infoSlint rfl (by decide) _ m.len _ rfl (Q0.out.r1.alloc _) _ 1 [.slice none 0 0] rfl (sl_new _ _ _ _ _) rfl (by simp [Value.oneCell']) (.inr (.inr (by decide))) (by omega) (by decide) (by simp; omega) ?_; intro x1 wn hown hg hn; obtain ⟨xa, xc, rfl⟩ := own_len hown; have Q1 := Lib.hid (SQ.app1 (Q0.out.below (below1 _ _)) hown hg (Nat.le_refl _)); have FT1 := Lib.hid (foot1 FT0.out hn (by simp; omega)); have K1 := Lib.hid (keep_next (o := 1) (y := .slice xa (m.len + 1) xc) K0.out HFg.out (below1 _ _) hg (fun k q => FT0.out k (.inr (.inr (.inl q))))); have pcn := app_pc (Q0.out.below (below1 _ _)) (row := none) (Q0.out.r1.alloc _) (by decide) hg; have cst := cell_of_heap (o := 1) pcn rfl; have fst := free_of_heap (o := 1) pcn; clear hown hg hn pcn)
        clear cst fst k0 k1 k2 kz
        generalize World.setCell _ _ _ = W8 at *
        obtain ⟨k0, k1, k2, kz⟩ := Q1.out.c
        have sz8 := K1.out.size
        go_upto_region 10 with (at_builtin; refine wpList_app2 rfl (.tmp 43) (.tmp 44) 27 rfl w.heap.size 3 _ 1 8 Try.underlying27 Try.infoInt rfl (by decide) _ m.len _ rfl (Q1.out.r2.alloc _) _ 1 [.int .i64 (-1)] rfl (sl_new _ _ _ _ _) rfl (by simp [Value.oneCell']) (.inr (.inr (by decide))) (by omega) (by decide) (by simp; omega) ?_; intro x2 wn hown hg hn; obtain ⟨xa, xc, rfl⟩ := own_len hown; have Q2 := Lib.hid (SQ.app2 (Q1.out.below (below1 _ _)) hown hg hn RL.out); have FT2 := Lib.hid (foot2 FT1.out hn (by simp; omega)); have K2 := Lib.hid (keep_next (o := 2) (y := .slice xa (m.len + 1) xc) K1.out HFg.out (below1 _ _) hg (fun k q => FT1.out k (.inr (.inr (.inr (.inl q)))))); have pcn := app_pc (Q1.out.below (below1 _ _)) (row := none) (Q1.out.r2.alloc _) (by decide) hg; have cst := cell_of_heap (o := 2) pcn rfl; have fst := free_of_heap (o := 2) pcn; clear hown hg hn pcn)
        clear cst fst k0 k1 k2 kz
        generalize World.setCell _ _ _ = W9 at *
        have SP9 := Lib.hid (SQ.fin HWF.out Q2.out (upd_same _ _ _) FT2.out K2.out)
        have sz9 := K2.out.size
        have B9 : Hid (W9.heap[wr.heap.size]? = some (.cells c.arr 79 (0, 0))) := by
          show _ = _
          rw [K2.out.block _ sz1 HNF.out]; exact HBOX.out
        have q0 := cell_of_heap (o := 0) B9.out (v := .int .i64 c.op) rfl
        have q1 := cell_of_heap (o := 1) B9.out (v := .int .i64 c.list) rfl
        have q2 := cell_of_heap (o := 2) B9.out (v := .int .i64 c.other) rfl
        have q3 := cell_of_heap (o := 3) B9.out (v := .int .i64 c.elem) rfl
        have q4 := cell_of_heap (o := 4) B9.out (v := .int .i64 c.mark) rfl
        have q5 := cell_of_heap (o := 5) B9.out (v := .int .i64 c.v.kind) rfl
        have q6 := cell_of_heap (o := 6) B9.out (v := .int .i64 c.v.n) rfl
        have q7 := cell_of_heap (o := 7) B9.out (v := .string c.v.s) rfl
        obtain ⟨u0, u1, u2', u3', us, hs9⟩ := SP9.out.sr
        have hwg := HWF.out.grow
        have hmj : m.len = j := HML.out
        have OP := Lib.hid (sopen_c hs9 hwg HPM.out.grow (by show m.len + 1 ≤ _; omega) (by show m.cnt ≤ _; have := HCN.out; omega) (fun l => Nat.le_trans (HSQ.out l) (by decide)))
        unfold Cl.agg' at OP
        clear hs9 hmj
        go_wp2_with fail
        refine OP.out.mono ?_
        rintro r w4 ⟨rfl, hb4⟩
        have HB4 := Lib.hid hb4
        have RO4 := Lib.hid (own_below (own_keeps (own_below HP.out.rowO HB1.out) K2.out HFO.out) hb4)
        have sz4 := hb4.size
        clear hb4 OP q0 q1 q2 q3 q4 q5 q6 q7
        go_upto_region 11 with (at_builtin; refine wpList_app2 rfl (.tmp 48) (.tmp 52) 23 rfl w.heap.size 4 _ 1 1 Try.underlying23 Try.infoBool rfl (by decide) _ j _ rfl (RO4.out.alloc _) _ 1 [.bool (m.grow.opened c)] rfl (sl_new _ _ _ _ _) rfl (by simp [Value.oneCell']) (.inr (.inr (by decide))) (by omega) (by decide) (by simp; omega) ?_; intro opn' w5 hown hg hn; have MID := Lib.hid (HP.out.mid HG.out HB1.out HFO.out HFA.out HFB.out HNF.out HBOX.out (by rw [HM.out]; exact SP9.out) HB4.out (by rw [HM.out]; exact hown) hg hn); clear hown hg hn)
        have y0 := MID.out.cell (t := 0) rfl; have y1 := MID.out.cell (t := 1) rfl; have y2 := MID.out.cell (t := 2) rfl; have y3 := MID.out.cell (t := 3) rfl; have y4 := MID.out.cell (t := 4) rfl; have y5 := MID.out.cell (t := 5) rfl; have y6 := MID.out.cell (t := 6) rfl; have y7 := MID.out.cell (t := 7) rfl
        obtain ⟨F9, st9, nO, nA⟩ := MID.out.st
        rw [HM.out] at st9
        have st9F := st9.bounds
        have sz5 := MID.out.below.size
        have hmj : m.len = j := HML.out
        by_cases h3 : 3 ≤ c.op
        · by_cases h14 : c.op ≤ 14
          · have CT := Lib.hid (schange_c (i := j) st9 hwg (by show j < m.len + 1; omega) (by show m.len + 1 ≤ _; omega) HCN.out HSQ.out HPM.out.grow h3 h14)
            unfold Cl.agg' at CT
            go_wp2_with fail
            refine (CT.out).mono ?_
            rintro r w6 ⟨rfl, S6⟩
            have E6 : Hid (m.step c = m.grow.change j c) := by show _ = _; unfold Md.step; rw [if_pos ⟨h3, h14⟩, HML.out]
            rw [← E6.out] at S6 ⊢
            have RA6 := Lib.hid (own_keeps MID.out.rowA (SP.keeps S6) nA)
            have SS6 := Lib.hid S6
            have sz6 := SP.size S6
            clear S6
            generalize ha : (Md.step _ _).2 = a
            have HA := Lib.hid ha
            clear ha
            unfold An.agg'
            go_wp2_with (at_builtin; refine wpList_app2 rfl (.tmp 62) (.tmp 67) 80 rfl w.heap.size 84 _ 5 48 Try.underlying80 Try.infoSAnswer rfl (by decide) _ j _ rfl (RA6.out.alloc _) _ 1 a.cells rfl (sl_new w6 _ _ _ _) rfl (by simp [An.cells, Value.oneCell']) (.inr (.inr (by decide))) (by omega) (by decide) (by simp; omega) ?_; intro v' w7 hown hg hn; have N7 := Lib.hid (MID.out.next OK1.out HG.out nO nA (fun k q => (st9F k q).1) (by rw [HM.out]; exact SS6.out) (by rw [HM.out, HA.out]; exact hown) hg hn); clear hown hg hn)
            go_roundg (gk - 1)
            case measure => omega
            case rel => exact ⟨j + 1, by have := HJ.out; omega, by go_num, N7.out⟩
          · have hno : ¬ (3 ≤ c.op ∧ c.op ≤ 14) := fun q => h14 q.2
            have CT := Lib.hid (slook_c (i := j) st9 hwg (by show j < m.len + 1; omega) (by show m.len + 1 ≤ _; omega) HCN.out HSQ.out HPM.out.grow hno)
            unfold Cl.agg' at CT
            go_wp2_with fail
            refine (CT.out).mono ?_
            rintro r w6 ⟨rfl, S6⟩
            have E6 : Hid (m.step c = m.grow.look j c) := by show _ = _; unfold Md.step; rw [if_neg hno, HML.out]
            rw [← E6.out] at S6 ⊢
            have RA6 := Lib.hid (own_keeps MID.out.rowA (SP.keeps S6) nA)
            have SS6 := Lib.hid S6
            have sz6 := SP.size S6
            clear S6
            generalize ha : (Md.step _ _).2 = a
            have HA := Lib.hid ha
            clear ha
            unfold An.agg'
            go_wp2_with (at_builtin; refine wpList_app2 rfl (.tmp 69) (.tmp 74) 80 rfl w.heap.size 84 _ 5 48 Try.underlying80 Try.infoSAnswer rfl (by decide) _ j _ rfl (RA6.out.alloc _) _ 1 a.cells rfl (sl_new w6 _ _ _ _) rfl (by simp [An.cells, Value.oneCell']) (.inr (.inr (by decide))) (by omega) (by decide) (by simp; omega) ?_; intro v' w7 hown hg hn; have N7 := Lib.hid (MID.out.next OK1.out HG.out nO nA (fun k q => (st9F k q).1) (by rw [HM.out]; exact SS6.out) (by rw [HM.out, HA.out]; exact hown) hg hn); clear hown hg hn)
            go_roundg (gk - 1)
            case measure => omega
            case rel => exact ⟨j + 1, by have := HJ.out; omega, by go_num, N7.out⟩
        · have hno : ¬ (3 ≤ c.op ∧ c.op ≤ 14) := fun q => h3 q.1
          have hd : decide (3 ≤ c.op) = false := by simpa using h3
          have CT := Lib.hid (slook_c (i := j) st9 hwg (by show j < m.len + 1; omega) (by show m.len + 1 ≤ _; omega) HCN.out HSQ.out HPM.out.grow hno)
          unfold Cl.agg' at CT
          go_wp2_with fail
          refine (CT.out).mono ?_
          rintro r w6 ⟨rfl, S6⟩
          have E6 : Hid (m.step c = m.grow.look j c) := by show _ = _; unfold Md.step; rw [if_neg hno, HML.out]
          rw [← E6.out] at S6 ⊢
          have RA6 := Lib.hid (own_keeps MID.out.rowA (SP.keeps S6) nA)
          have SS6 := Lib.hid S6
          have sz6 := SP.size S6
          clear S6
          generalize ha : (Md.step _ _).2 = a
          have HA := Lib.hid ha
          clear ha
          unfold An.agg'
          go_wp2_with (at_builtin; refine wpList_app2 rfl (.tmp 69) (.tmp 74) 80 rfl w.heap.size 84 _ 5 48 Try.underlying80 Try.infoSAnswer rfl (by decide) _ j _ rfl (RA6.out.alloc _) _ 1 a.cells rfl (sl_new w6 _ _ _ _) rfl (by simp [An.cells, Value.oneCell']) (.inr (.inr (by decide))) (by omega) (by decide) (by simp; omega) ?_; intro v' w7 hown hg hn; have N7 := Lib.hid (MID.out.next OK1.out HG.out nO nA (fun k q => (st9F k q).1) (by rw [HM.out]; exact SS6.out) (by rw [HM.out, HA.out]; exact hown) hg hn); clear hown hg hn)
          go_roundg (gk - 1)
          case measure => omega
          case rel => exact ⟨j + 1, by have := HJ.out; omega, by go_num, N7.out⟩
end Bead
end Go.Proofs.Ytidnmanljdadaaa
