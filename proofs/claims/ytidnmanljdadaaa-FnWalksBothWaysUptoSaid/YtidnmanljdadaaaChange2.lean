/- The contract of (*player).change at the two kinds of insertion: for every player in memory. -/
import Derived.Test.YtidnmanljdadaaaChange
set_option linter.all false
namespace Go.Proofs.Ytidnmanljdadaaa
open Go.RowKit
namespace Bead
set_option maxRecDepth 100000
section
variable {w : World} {B p pl pe N : Nat} {m : Md} {b : BM} {bl be : Nat → Nat} {i : Nat} {c : Cl}
theorem plain_M {W : World} {v : Vl} (h : Mid w B p pl pe N m b bl be c W) (hv : v.ok) : Calls Try.prog 57 #[v.agg] W fun r w' => ∃ x, r = .returned x ∧ VRep w' (canon v) x ∧ Mid w B p pl pe N m b bl be c w' :=
  (plain_c v hv W).mono fun r w' ⟨⟨x, h1, h2⟩, h3⟩ => ⟨x, h1, h2, h3 ▸ h.alloc _⟩

set_option maxHeartbeats 1000000 in
theorem change_5 (h : At w B p pl pe N m b bl be i) {l : Nat} {j y : Nat} {o e : Int} {v : Vl} (hv : v.ok) (hj : j < N) (hy : m.ret j = some y) (hyl : y ∈ m.seq l) (hl : m.isL l = true) (hlN : l < N) :
    Calls Try.prog 38 #[.pointer (some ⟨p, 0, none⟩), .int .i64 i, Cl.agg ⟨5, l, o, e, (j : Nat), v⟩] w
      (StepPost w B p pl pe N (((m.make v (some l)).put l ((m.seq l).idxOf y + 0) m.cnt).give i m.cnt) (((m.make v (some l)).put l ((m.seq l).idxOf y + 0) m.cnt).num i m.cnt)) := by
  have M0 := Mid.start h.ir ⟨5, l, o, e, (j : Nat), v⟩
  have HH := Lib.hid h
  clear h
  unfold Cl.agg
  unfold callBlock ansBlock at M0
  simp only at M0 ⊢
  go_enter Try.func38, Try.ntmps38
  go_wp2
  generalize ((w.alloc _).alloc _) = W at M0 ⊢
  obtain ⟨a0, a1, a2, a3, a4, a5, a6, a7⟩ := M0.args
  have p0 := M0.ir.p0
  have cl := M0.list hl hlN
  simp only at a0 a1 a2 a3 a4 a5 a6 a7
  have HM := Lib.hid M0
  clear M0
  go_quiet (fail)
  have HM := Lib.hid (HM.out.drewN nq)
  have b0 := HM.out.args.1
  obtain ⟨_, _, _, _, b4, b5, b6, b7⟩ := HM.out.args
  simp only at b0 b4 b5 b6 b7
  clear a0 a1 a2 a3 a4 a5 a6 a7 p0 cl
  generalize W.drewN nq = W2 at HM b0 b4 b5 b6 b7 ⊢
  have HY := Lib.hid hy
  clear hy
  go_wp2_with fail
  go_region_with (first | (go_at_call 57; refine (plain_M (HM.out.drewN 1) hv).mono ?_; rintro r w' ⟨x', rfl, hx, hM⟩; have HX := Lib.hid hx; have b4p := hM.args.2.2.2.2.1; simp only at b4p; have HMp := Lib.hid hM; clear hx hM) | (go_at_call 60; first | (refine (elem_c HMp.out.ir hj HY.out).mono ?_; rintro r w' ⟨rfl, rfl⟩) | (refine (elem_c (HM.out.drewN 1).ir hj HY.out).mono ?_; rintro r w' ⟨rfl, rfl⟩)) | (go_at_call 59; refine (insertBefore_I HMp.out.ir HH.out.wf hl hyl (by have := HH.out.hc; omega) HX.out).mono ?_; rintro r w' ⟨b', be', rfl, hI, hT⟩; have HM2 := Lib.hid (HMp.out.step hI hT); clear hI hT) | (go_at_call 55; refine (number_c HM2.out.ir (put_mid HH.out.wf v hl _) HH.out.hi (Nat.lt_succ_self _) HH.out.late HH.out.hN).mono ?_; rintro r w' ⟨rfl, hI, hK⟩; have M3 := HM2.out.step hI (HM2.out.ir.touch_pe hK); obtain ⟨f5, c0, c1, c2, c3, c4⟩ := ans_cells M3.ans; generalize ha : Md.num _ _ _ = a; have HA := Lib.hid ha; have FIN := Lib.hid (M3.fin a); clear M3 hI hK ha; unfold An.agg))
  all_goals
    go_wp2
    refine bodyPost_ret (v := An.agg a) ?_ rfl ⟨by rw [HA.out], FIN.out⟩
    simp [results, Try.results38, go_sem, An.agg, f5, c0, c1, c2, c3, c4]

set_option maxHeartbeats 1000000 in
theorem change_6 (h : At w B p pl pe N m b bl be i) {l : Nat} {j y : Nat} {o e : Int} {v : Vl} (hv : v.ok) (hj : j < N) (hy : m.ret j = some y) (hyl : y ∈ m.seq l) (hl : m.isL l = true) (hlN : l < N) :
    Calls Try.prog 38 #[.pointer (some ⟨p, 0, none⟩), .int .i64 i, Cl.agg ⟨6, l, o, e, (j : Nat), v⟩] w
      (StepPost w B p pl pe N (((m.make v (some l)).put l ((m.seq l).idxOf y + 1) m.cnt).give i m.cnt) (((m.make v (some l)).put l ((m.seq l).idxOf y + 1) m.cnt).num i m.cnt)) := by
  have M0 := Mid.start h.ir ⟨6, l, o, e, (j : Nat), v⟩
  have HH := Lib.hid h
  clear h
  unfold Cl.agg
  unfold callBlock ansBlock at M0
  simp only at M0 ⊢
  go_enter Try.func38, Try.ntmps38
  go_wp2
  generalize ((w.alloc _).alloc _) = W at M0 ⊢
  obtain ⟨a0, a1, a2, a3, a4, a5, a6, a7⟩ := M0.args
  have p0 := M0.ir.p0
  have cl := M0.list hl hlN
  simp only at a0 a1 a2 a3 a4 a5 a6 a7
  have HM := Lib.hid M0
  clear M0
  go_quiet (fail)
  have HM := Lib.hid (HM.out.drewN nq)
  have b0 := HM.out.args.1
  obtain ⟨_, _, _, _, b4, b5, b6, b7⟩ := HM.out.args
  simp only at b0 b4 b5 b6 b7
  clear a0 a1 a2 a3 a4 a5 a6 a7 p0 cl
  generalize W.drewN nq = W2 at HM b0 b4 b5 b6 b7 ⊢
  have HY := Lib.hid hy
  clear hy
  go_wp2_with fail
  go_region_with (first | (go_at_call 57; refine (plain_M (HM.out.drewN 1) hv).mono ?_; rintro r w' ⟨x', rfl, hx, hM⟩; have HX := Lib.hid hx; have b4p := hM.args.2.2.2.2.1; simp only at b4p; have HMp := Lib.hid hM; clear hx hM) | (go_at_call 60; first | (refine (elem_c HMp.out.ir hj HY.out).mono ?_; rintro r w' ⟨rfl, rfl⟩) | (refine (elem_c (HM.out.drewN 1).ir hj HY.out).mono ?_; rintro r w' ⟨rfl, rfl⟩)) | (go_at_call 61; refine (insertAfter_I HMp.out.ir HH.out.wf hl hyl (by have := HH.out.hc; omega) HX.out).mono ?_; rintro r w' ⟨b', be', rfl, hI, hT⟩; have HM2 := Lib.hid (HMp.out.step hI hT); clear hI hT) | (go_at_call 55; refine (number_c HM2.out.ir (put_mid HH.out.wf v hl _) HH.out.hi (Nat.lt_succ_self _) HH.out.late HH.out.hN).mono ?_; rintro r w' ⟨rfl, hI, hK⟩; have M3 := HM2.out.step hI (HM2.out.ir.touch_pe hK); obtain ⟨f5, c0, c1, c2, c3, c4⟩ := ans_cells M3.ans; generalize ha : Md.num _ _ _ = a; have HA := Lib.hid ha; have FIN := Lib.hid (M3.fin a); clear M3 hI hK ha; unfold An.agg))
  all_goals
    go_wp2
    refine bodyPost_ret (v := An.agg a) ?_ rfl ⟨by rw [HA.out], FIN.out⟩
    simp [results, Try.results38, go_sem, An.agg, f5, c0, c1, c2, c3, c4]

set_option maxHeartbeats 1000000 in
theorem change_5n (h : At w B p pl pe N m b bl be i) {l : Nat} {j y : Nat} {o e : Int} {v : Vl} (hv : v.ok) (hj : j < N) (hy : m.ret j = some y) (hyl : y ∉ m.seq l) (hyc : y < m.cnt) (hst : m.clr y ≠ some l) (hl : m.isL l = true) (hlN : l < N) :
    Calls Try.prog 38 #[.pointer (some ⟨p, 0, none⟩), .int .i64 i, Cl.agg ⟨5, l, o, e, (j : Nat), v⟩] w
      (StepPost w B p pl pe N m An.no) := by
  have M0 := Mid.start h.ir ⟨5, l, o, e, (j : Nat), v⟩
  have HH := Lib.hid h
  clear h
  unfold Cl.agg
  unfold callBlock ansBlock at M0
  simp only at M0 ⊢
  go_enter Try.func38, Try.ntmps38
  go_wp2
  generalize ((w.alloc _).alloc _) = W at M0 ⊢
  obtain ⟨a0, a1, a2, a3, a4, a5, a6, a7⟩ := M0.args
  have p0 := M0.ir.p0
  have cl := M0.list hl hlN
  simp only at a0 a1 a2 a3 a4 a5 a6 a7
  have HM := Lib.hid M0
  clear M0
  go_quiet (fail)
  have HM := Lib.hid (HM.out.drewN nq)
  have b0 := HM.out.args.1
  obtain ⟨_, _, _, _, b4, b5, b6, b7⟩ := HM.out.args
  simp only at b0 b4 b5 b6 b7
  clear a0 a1 a2 a3 a4 a5 a6 a7 p0 cl
  generalize W.drewN nq = W2 at HM b0 b4 b5 b6 b7 ⊢
  have HY := Lib.hid hy
  clear hy
  go_wp2_with fail
  go_region_with (first | (go_at_call 57; refine (plain_M (HM.out.drewN 1) hv).mono ?_; rintro r w' ⟨x', rfl, hx, hM⟩; have b4p := hM.args.2.2.2.2.1; simp only at b4p; have HMp := Lib.hid hM; clear hx hM) | (go_at_call 60; first | (refine (elem_c HMp.out.ir hj HY.out).mono ?_; rintro r w' ⟨rfl, rfl⟩) | (refine (elem_c (HM.out.drewN 1).ir hj HY.out).mono ?_; rintro r w' ⟨rfl, rfl⟩)) | (go_at_call 59; refine (insertBefore_N HMp.out.ir HH.out.wf hl hyc hst hyl).mono ?_; rintro r w' ⟨rfl, rfl⟩) | (go_at_call 55; refine (number_nil _).mono ?_; rintro r w' ⟨rfl, hB⟩; have M3 := HMp.out.step (HMp.out.ir.below hB) (Touch.of_below hB); obtain ⟨f5, c0, c1, c2, c3, c4⟩ := ans_cells M3.ans; have FIN := Lib.hid (M3.fin An.no); clear M3 hB; unfold An.agg))
  all_goals
    go_wp2
    refine bodyPost_ret (v := An.agg An.no) ?_ rfl ⟨rfl, FIN.out⟩
    simp [results, Try.results38, go_sem, An.agg, An.no, Vl.zero, f5, c0, c1, c2, c3, c4]
    try rfl

set_option maxHeartbeats 1000000 in
theorem change_6n (h : At w B p pl pe N m b bl be i) {l : Nat} {j y : Nat} {o e : Int} {v : Vl} (hv : v.ok) (hj : j < N) (hy : m.ret j = some y) (hyl : y ∉ m.seq l) (hyc : y < m.cnt) (hst : m.clr y ≠ some l) (hl : m.isL l = true) (hlN : l < N) :
    Calls Try.prog 38 #[.pointer (some ⟨p, 0, none⟩), .int .i64 i, Cl.agg ⟨6, l, o, e, (j : Nat), v⟩] w
      (StepPost w B p pl pe N m An.no) := by
  have M0 := Mid.start h.ir ⟨6, l, o, e, (j : Nat), v⟩
  have HH := Lib.hid h
  clear h
  unfold Cl.agg
  unfold callBlock ansBlock at M0
  simp only at M0 ⊢
  go_enter Try.func38, Try.ntmps38
  go_wp2
  generalize ((w.alloc _).alloc _) = W at M0 ⊢
  obtain ⟨a0, a1, a2, a3, a4, a5, a6, a7⟩ := M0.args
  have p0 := M0.ir.p0
  have cl := M0.list hl hlN
  simp only at a0 a1 a2 a3 a4 a5 a6 a7
  have HM := Lib.hid M0
  clear M0
  go_quiet (fail)
  have HM := Lib.hid (HM.out.drewN nq)
  have b0 := HM.out.args.1
  obtain ⟨_, _, _, _, b4, b5, b6, b7⟩ := HM.out.args
  simp only at b0 b4 b5 b6 b7
  clear a0 a1 a2 a3 a4 a5 a6 a7 p0 cl
  generalize W.drewN nq = W2 at HM b0 b4 b5 b6 b7 ⊢
  have HY := Lib.hid hy
  clear hy
  go_wp2_with fail
  go_region_with (first | (go_at_call 57; refine (plain_M (HM.out.drewN 1) hv).mono ?_; rintro r w' ⟨x', rfl, hx, hM⟩; have b4p := hM.args.2.2.2.2.1; simp only at b4p; have HMp := Lib.hid hM; clear hx hM) | (go_at_call 60; first | (refine (elem_c HMp.out.ir hj HY.out).mono ?_; rintro r w' ⟨rfl, rfl⟩) | (refine (elem_c (HM.out.drewN 1).ir hj HY.out).mono ?_; rintro r w' ⟨rfl, rfl⟩)) | (go_at_call 61; refine (insertAfter_N HMp.out.ir HH.out.wf hl hyc hst hyl).mono ?_; rintro r w' ⟨rfl, rfl⟩) | (go_at_call 55; refine (number_nil _).mono ?_; rintro r w' ⟨rfl, hB⟩; have M3 := HMp.out.step (HMp.out.ir.below hB) (Touch.of_below hB); obtain ⟨f5, c0, c1, c2, c3, c4⟩ := ans_cells M3.ans; have FIN := Lib.hid (M3.fin An.no); clear M3 hB; unfold An.agg))
  all_goals
    go_wp2
    refine bodyPost_ret (v := An.agg An.no) ?_ rfl ⟨rfl, FIN.out⟩
    simp [results, Try.results38, go_sem, An.agg, An.no, Vl.zero, f5, c0, c1, c2, c3, c4]
    try rfl
end
end Bead
end Go.Proofs.Ytidnmanljdadaaa
