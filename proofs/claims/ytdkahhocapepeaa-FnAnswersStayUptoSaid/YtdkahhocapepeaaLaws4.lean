/- laws.then, laws.permitted; FnAnswersStay returns true. -/
import Derived.Test.YtdkahhocapepeaaConcatCall
import Derived.Test.YtdkahhocapepeaaLast3
set_option linter.all false
namespace Go.Proofs.Ytdkahhocapepeaa
open Go.RowKit
namespace Bead
set_option maxRecDepth 100000

theorem cells_app (a b : List Cl) : (a ++ b).flatMap Cl.cells = a.flatMap Cl.cells ++ b.flatMap Cl.cells := List.flatMap_append
theorem own_fair {w : World} {B : Nat} {e : TypeId} {sz n : Nat} {v : Value} {xs : List Value} (h : w.ownsRow B e sz v n xs) : Value.fair v := by
  rcases h.2 with ⟨rfl, _⟩ | ⟨g, cap, cur, rfl, _⟩
  · intro n c q; simp at q; exact q.2.symm
  · intro n c q; simp at q

set_option maxHeartbeats 1000000 in
theorem then_c {w : World} {v1 v2 : Value} {a b : List Cl} (s1 : Sl w v1 a.length (a.flatMap Cl.cells)) (s2 : Sl w v2 b.length (b.flatMap Cl.cells)) (f1 : Value.fair v1) (f2 : Value.fair v2) (hn : a.length + b.length ≤ 1099511627776) :
    Calls Try.prog 22 #[v1, v2] w fun r w' => ∃ v', r = .returned v' ∧ w'.ownsRow w.heap.size 36 8 v' (a ++ b).length ((a ++ b).flatMap Cl.cells) ∧ Below w.heap.size w w' := by
  have CC : Hid (∀ t, Calls Try.prog 30 #[.slice (some ⟨w.heap.size, 0, none⟩) 2 2] (w.alloc (.cells #[v1, v2] t)) fun r w' => ∃ v', r = .returned v' ∧ w'.ownsRow (w.alloc (.cells #[v1, v2] t)).heap.size 36 8 v' (a.length + b.length) (a.flatMap Cl.cells ++ b.flatMap Cl.cells) ∧ Below (w.alloc (.cells #[v1, v2] t)).heap.size (w.alloc (.cells #[v1, v2] t)) w') := fun t =>
    concatCall_c (cell_of_heap (heap_alloc_new w _) rfl) (cell_of_heap (heap_alloc_new w _) rfl) (s1.later (below1 w _)) (s2.later (below1 w _)) (flat_length _ 8 Cl.cells_length _) (flat_length _ 8 Cl.cells_length _) (cells_one _) (cells_one _) f1 f2 hn
  obtain ⟨a1, c1, rfl, _⟩ := s1
  obtain ⟨a2, c2, rfl, _⟩ := s2
  rw [List.length_append, cells_app]
  clear f1 f2
  go_enter Try.func22, Try.ntmps22
  go_wp2_with fail
  refine (CC.out _).mono ?_
  rintro r w1 ⟨v', rfl, r1, hb⟩
  have R := Lib.hid (own_base (B' := w.heap.size) r1 (by simp)); have B := Lib.hid ((below1 w _).trans (hb.mono (by simp)))
  clear r1 hb CC
  go_wp2
  go_ret
  exact ⟨_, rfl, R.out, B.out⟩

theorem permittedL_c {w : World} {v : Value} {cs : List Cl} (hs : Sl w v cs.length (cs.flatMap Cl.cells)) (hlen : cs.length ≤ 1099511627776) :
    Calls Try.prog 21 #[v] w fun r w' => r = .returned (.bool (okFrom 500 Md.init cs)) ∧ Below w.heap.size w w' := by
  have DF := Lib.hid (defined_c hs hlen)
  clear hs
  go_enter Try.func21, Try.ntmps21
  go_wp2_with fail
  refine DF.out.mono ?_
  rintro r w1 ⟨hb1, hcase⟩
  have B1 := Lib.hid hb1
  rcases hcase with ⟨hok, a, o, rfl, ra, ro⟩ | ⟨hok, rfl⟩
  · obtain ⟨a1, a2, rfl⟩ := own_len ra
    obtain ⟨o1, o2, rfl⟩ := own_len ro
    have HOK := Lib.hid hok
    clear hb1 hok ra ro DF
    go_wp2
    go_ret
    exact ⟨by rw [HOK.out]; rfl, B1.out⟩
  · have HOK := Lib.hid hok
    clear hb1 hok DF
    go_wp2
    go_ret
    exact ⟨by rw [HOK.out]; rfl, B1.out⟩

set_option maxHeartbeats 2000000 in
theorem stay_c {w : World} {v1 v2 : Value} {a b : List Cl} (s1 : Sl w v1 a.length (a.flatMap Cl.cells)) (s2 : Sl w v2 b.length (b.flatMap Cl.cells)) (f1 : Value.fair v1) (f2 : Value.fair v2) (hva : ∀ c ∈ a, c.v.ok) (hvb : ∀ c ∈ b, c.v.ok) (hn : a.length + b.length ≤ 1099511627776) :
    Calls Try.prog 10 #[v1, v2] w fun r w' => r = .returned (.bool true) ∧ Below w.heap.size w w' := by
  have S1 := Lib.hid s1; have S2 := Lib.hid s2; have F1 := Lib.hid f1; have F2 := Lib.hid f2; have VA := Lib.hid hva; have VB := Lib.hid hvb
  have LL : (a ++ b).length ≤ 1099511627776 := by rw [List.length_append]; exact hn
  have TH := Lib.hid (then_c s1 s2 f1 f2 hn)
  clear s1 s2 f1 f2 hva hvb
  go_enter Try.func10, Try.ntmps10
  go_wp2_with fail
  refine TH.out.mono ?_
  rintro r w1 ⟨t1, rfl, r1, hb1⟩
  have B1 := Lib.hid hb1
  have PM := Lib.hid (permittedL_c (Sl.of_own r1) LL)
  clear r1 hb1 TH
  go_wp2_with fail
  refine PM.out.mono ?_
  rintro r w2 ⟨rfl, hb2⟩
  have B2 := Lib.hid (B1.out.trans (hb2.mono B1.out.size))
  clear hb2 PM
  cases hok : okFrom 500 Md.init (a ++ b) with
  | false =>
    go_wp2
    go_ret
    exact ⟨rfl, B2.out⟩
  | true =>
    have hoka : okFrom 500 Md.init a = true := by rw [okFrom_append] at hok; simp at hok; exact hok.1
    have HOK := Lib.hid hok; have HOKA := Lib.hid hoka
    have DF := Lib.hid (defined_c (S1.out.later B2.out) (by omega))
    clear hok hoka
    go_wp2_with fail
    refine DF.out.mono ?_
    rintro r w3 ⟨hb3, hcase⟩
    have B3 := Lib.hid (B2.out.trans (hb3.mono B2.out.size))
    rcases hcase with ⟨_, aa, oo, rfl, ra, ro⟩ | ⟨hno, rfl⟩
    case inr => rw [HOKA.out] at hno; simp at hno
    rw [flat_bools] at ro
    have RO := Lib.hid ro
    have TH := Lib.hid (then_c (S1.out.later B3.out) (S2.out.later B3.out) F1.out F2.out hn)
    obtain ⟨o1, o2, rfl⟩ := own_len ro
    clear hb3 ra ro DF
    go_wp2_with fail
    refine TH.out.mono ?_
    rintro r w4 ⟨t4, rfl, r4, hb4⟩
    have B4 := Lib.hid (B3.out.trans (hb4.mono B3.out.size))
    have RO4 := Lib.hid (own_below RO.out hb4)
    have PL := Lib.hid (play_any (Sl.of_own r4) (fun c hc => by rcases List.mem_append.1 hc with q | q; exact VA.out c q; exact VB.out c q) HOK.out (by decide) LL)
    clear r4 hb4 TH
    go_wp2_with fail
    refine PL.out.mono ?_
    rintro r w5 ⟨g5, rfl, r5, hb5⟩
    have B5 := Lib.hid (B4.out.trans (hb5.mono B4.out.size))
    have RO5 := Lib.hid (own_below RO4.out hb5)
    have PA := Lib.hid (play_any ((S1.out.later B5.out).drew) VA.out HOKA.out (by decide) (by omega))
    rw [ansFrom_append, List.flatMap_append] at r5
    have R5 := Lib.hid r5
    obtain ⟨ga, gc, rfl⟩ := own_len r5
    obtain ⟨a1, c1, e1, _⟩ := S1.out
    obtain ⟨a2, c2, e2, _⟩ := S2.out
    subst e1
    subst e2
    rw [List.length_append] at *
    have ql : (((a.length + b.length : Nat) : Int) == (a.length : Int) + (b.length : Int)) = true := by simp
    have hle : a.length ≤ gc := by
      rcases r5.2 with ⟨q, z⟩ | ⟨_, _, _, q, _, _, hz, _⟩
      · simp only [Value.slice.injEq] at q; omega
      · simp only [Value.slice.injEq] at q; omega
    have wrp : IntKind.i64.wrap ((a.length : Int) + (b.length : Int)) = (a.length : Int) + (b.length : Int) := by rw [IntKind.wrap_i64]; omega
    clear r5 hb5 PL
    go_wp2_with fail
    refine wp_region_T (fun _ => True) [] [14, 16] run_mixed ?_
    simp only [List.size_toArray, List.length_cons, List.length_nil]
    refine wpT_takeG (i := 0) (v := ?va0) rfl (by kernel_rfl) (fun _ _ _ h => h) rfl ?ya0 ?ra0
    case ya0 => ((intro wz; go_simp); try with_reducible rfl)
    try simp only [Act.put, List.setIfInBounds_toArray, List.set_cons_zero, List.set_cons_succ]
    refine wpT_takeG (i := 1) (v := ?va1) rfl (by kernel_rfl) (fun _ _ _ h => h) rfl ?ya1 ?ra1
    case ya1 => ((intro wz; go_simp); try with_reducible rfl)
    try simp only [Act.put, List.setIfInBounds_toArray, List.set_cons_zero, List.set_cons_succ]
    refine wpT_takeG (i := 2) (v := ?va2) rfl (by kernel_rfl) (fun _ _ _ h => h) rfl ?ya2 ?ra2
    case ya2 => ((intro wz; go_simp); try with_reducible rfl)
    try simp only [Act.put, List.setIfInBounds_toArray, List.set_cons_zero, List.set_cons_succ]
    refine wpT_takeG (i := 3) (v := ?va3) rfl (by kernel_rfl) (fun _ _ _ h => h) rfl ?ya3 ?ra3
    case ya3 => ((intro wz; go_simp); try with_reducible rfl)
    try simp only [Act.put, List.setIfInBounds_toArray, List.set_cons_zero, List.set_cons_succ]
    refine wpT_takeG (i := 4) (v := ?va4) rfl (by kernel_rfl) (fun _ _ _ h => h) rfl ?ya4 ?ra4
    case ya4 => ((intro wz; go_simp); try with_reducible rfl)
    try simp only [Act.put, List.setIfInBounds_toArray, List.set_cons_zero, List.set_cons_succ]
    refine wpT_takeG (i := 5) (v := ?va5) rfl (by kernel_rfl) (fun _ _ _ h => h) rfl ?ya5 ?ra5
    case ya5 => ((intro wz; go_simp); try with_reducible rfl)
    try simp only [Act.put, List.setIfInBounds_toArray, List.set_cons_zero, List.set_cons_succ]
    refine wpT_takeG (i := 6) (v := ?va6) rfl (by kernel_rfl) (fun _ _ _ h => h) rfl ?ya6 ?ra6
    case ya6 => ((intro wz; go_simp); try with_reducible rfl)
    try simp only [Act.put, List.setIfInBounds_toArray, List.set_cons_zero, List.set_cons_succ]
    refine wpT_takeG (i := 7) (v := ?va7) rfl (by kernel_rfl) (fun _ _ _ h => h) rfl ?ya7 ?ra7
    case ya7 => ((intro wz; go_simp); try with_reducible rfl)
    try simp only [Act.put, List.setIfInBounds_toArray, List.set_cons_zero, List.set_cons_succ]
    refine wpT_takeG (i := 8) (v := ?va8) rfl (by kernel_rfl) (fun _ _ _ h => h) rfl ?ya8 ?ra8
    case ya8 => ((intro wz; go_simp); try with_reducible rfl)
    try simp only [Act.put, List.setIfInBounds_toArray, List.set_cons_zero, List.set_cons_succ]
    refine wpT_takeG (i := 9) (v := ?va9) rfl (by kernel_rfl) (fun _ _ _ h => h) rfl ?ya9 ?ra9
    case ya9 => ((intro wz; go_simp); try with_reducible rfl)
    try simp only [Act.put, List.setIfInBounds_toArray, List.set_cons_zero, List.set_cons_succ]
    refine wpT_takeG (i := 10) (v := ?va10) rfl (by kernel_rfl) (fun _ _ _ h => h) rfl ?ya10 ?ra10
    case ya10 => ((intro wz; go_simp); try with_reducible rfl)
    try simp only [Act.put, List.setIfInBounds_toArray, List.set_cons_zero, List.set_cons_succ]
    refine wpT_takeG (i := 11) (v := ?va11) rfl (by kernel_rfl) (fun _ _ _ h => h) rfl ?ya11 ?ra11
    case ya11 => ((intro wz; go_simp); try with_reducible rfl)
    try simp only [Act.put, List.setIfInBounds_toArray, List.set_cons_zero, List.set_cons_succ]
    refine wpT_takeG (i := 12) (v := ?va12) rfl (by kernel_rfl) (fun _ _ _ h => h) rfl ?ya12 ?ra12
    case ya12 => ((intro wz; go_simp); try with_reducible rfl)
    try simp only [Act.put, List.setIfInBounds_toArray, List.set_cons_zero, List.set_cons_succ]
    refine wpT_takeG (i := 13) (v := ?va13) rfl (by kernel_rfl) (fun _ _ _ h => h) rfl ?ya13 ?ra13
    case ya13 => ((intro wz; go_simp); try with_reducible rfl)
    try simp only [Act.put, List.setIfInBounds_toArray, List.set_cons_zero, List.set_cons_succ]
    refine wpT_takeG (i := 15) (v := ?va15) rfl (by kernel_rfl) (fun _ _ _ h => h) rfl ?ya15 ?ra15
    case ya15 => ((intro wz; go_simp); try with_reducible rfl)
    try simp only [Act.put, List.setIfInBounds_toArray, List.set_cons_zero, List.set_cons_succ]
    refine wpT_runG (i := 14) (by kernel_rfl) rfl rfl ?_
    go_simp
    refine PA.out.mono ?_
    rintro r w6 ⟨g6, rfl, r6, hb6⟩
    have hb56 : Below w5.heap.size w5 w6 := (Below.refl _ _).drew.trans hb6
    have LA : (ansFrom Md.init a).length = a.length := ansFrom_length a Md.init
    have LO : (openFrom Md.init a).length = a.length := openFrom_length a Md.init
    have S5 : Sl w5 (.slice ga a.length gc) a.length ((ansFrom Md.init a).flatMap An.cells) := by
      obtain ⟨x, y, e, hc⟩ := Sl.of_own R5.out
      simp only [Value.slice.injEq] at e
      refine ⟨ga, gc, rfl, fun hne => ?_⟩
      obtain ⟨b', off, hx, hcc⟩ := hc (by intro q; exact hne (List.append_eq_nil_iff.1 q).1)
      rw [hx] at e
      refine ⟨b', off, e.1, fun k y hy => hcc k y ?_⟩
      rw [List.getElem?_append_left (List.getElem?_eq_some_iff.1 hy).1]; exact hy
    have AG := Lib.hid (agree_c (w := w6) (A := ansFrom Md.init a) (O := openFrom Md.init a) (by rw [LA]; exact S5.later hb56) (by rw [LA]; exact Sl.of_own r6) (by rw [LA]; exact (Sl.of_own RO5.out).later hb56) (by rw [LA, LO]) (by rw [LA]; omega))
    have B6 := Lib.hid (B5.out.trans (hb56.mono B5.out.size))
    obtain ⟨x6, y6, rfl⟩ := own_len r6
    clear hb6 hb56 r6 LA LO S5 PA
    refine ⟨trivial, ?_⟩
    refine wpT_runG (i := 16) (by kernel_rfl) rfl rfl ?_
    go_simp
    refine AG.out.mono ?_
    rintro r w7 ⟨rfl, d, rfl⟩
    refine ⟨trivial, ?_⟩
    refine wpT_takeG (i := 17) (v := ?vb17) rfl (by kernel_rfl) (fun _ _ _ h => h) rfl ?yb17 ?rb17
    case yb17 => ((intro wz; go_simp); try with_reducible rfl)
    try simp only [Act.put, List.setIfInBounds_toArray, List.set_cons_zero, List.set_cons_succ]
    refine wpT_takeG (i := 18) (v := ?vb18) rfl (by kernel_rfl) (fun _ _ _ h => h) rfl ?yb18 ?rb18
    case yb18 => ((intro wz; go_simp); try with_reducible rfl)
    try simp only [Act.put, List.setIfInBounds_toArray, List.set_cons_zero, List.set_cons_succ]
    refine wpT_done (by kernel_rfl) ?_ _
    go_wp2
    go_ret
    exact ⟨rfl, Below.drewN' B6.out d⟩
end Bead
end Go.Proofs.Ytdkahhocapepeaa
