/- FnWalksBothWays returns true: a script of at most 2^20 calls. -/
import Derived.Test.YtidnmanljdadaaaApart
import Derived.Test.YtidnmanljdadaaaIter
import Derived.Test.YtidnmanljdadaaaLast4
set_option linter.all false
namespace Go.Proofs.Ytidnmanljdadaaa
open Go.RowKit
namespace Bead
set_option maxRecDepth 100000

theorem own_names {M : Md} {l : Nat} (hw : WF M) (hn : ∀ k e, e ∈ M.seq k → ∃ i, M.fst e = some i) : (M.names (M.seq l)).Nodup := by
  have := names_nodup hw hn [l] (by simp)
  simpa [allNames] using this

set_option maxHeartbeats 16000000 in
theorem both_c {w : World} {v : Value} {cs : List Cl} (s : Scr w v cs) (hn : cs.length ≤ 1048576) :
    Calls Try.prog 7 #[v] w fun r w' => r = .returned (.bool true) ∧ Below w.heap.size w w' := by
  have PM := Lib.hid (permittedL_c s.sl (by omega))
  have S := Lib.hid s
  clear s
  go_enter Try.func7, Try.ntmps7
  go_wp2_with fail
  refine PM.out.mono ?_
  rintro r w1 ⟨rfl, hb1⟩
  have B1 := Lib.hid hb1
  clear hb1 PM
  cases hok : okFrom 500 Md.init cs with
  | false =>
    clear hok
    go_wp2
    go_ret
    exact ⟨rfl, B1.out⟩
  | true =>
    have NM := Lib.hid (named_c (S.out.later B1.out) hok hn)
    have HOK := Lib.hid hok
    clear hok
    go_wp2_with fail
    refine NM.out.mono ?_
    rintro r w2 ⟨vs, rfl, s2, hb2⟩
    have B2 := Lib.hid (B1.out.trans (hb2.mono B1.out.size))
    have SN : Hid (∀ l ∈ listsOf (namedC cs), Scened (namedC cs) l) := fun l hl => named_scene HOK.out hn (by rw [← named_lists]; exact hl)
    have hln : (namedC cs).length ≤ 600000000 ∨ listsOf (namedC cs) = [] := by
      rcases q : listsOf (namedC cs) with _ | ⟨a, b⟩
      · exact .inr rfl
      · exact .inl (SN.out a (by rw [q]; simp)).len
    have hln2 : (namedC cs).length ≤ 600000000 := by
      rcases hln with q | q
      · exact q
      · have : namedC cs = cs := by unfold namedC; rw [← named_lists, q]; simp [Md.tour]
        rw [this]; omega
    generalize hns : namedC cs = ns at *
    clear hns hln
    have hll : (listsOf ns).length ≤ ns.length := listsAt_length ns 0
    have LS := Lib.hid (lists_c s2 (by omega))
    have S2 := Lib.hid s2
    clear s2 hb2 NM
    go_wp2_with fail
    refine LS.out.mono ?_
    rintro r w3 ⟨vl, rfl, rl, hb3⟩
    have B3 := Lib.hid (B2.out.trans (hb3.mono B2.out.size))
    have S3 := Lib.hid (S2.out.later hb3)
    have NT : Hid (Nats w3 vl (listsOf ns)) := Nats.of_own rl
    obtain ⟨x1, x2, rfl⟩ := own_len rl
    obtain ⟨y1, y2, rfl⟩ := S2.out.form
    clear hb3 rl LS
    go_wp2_with fail
    go_loopg [18] (listsOf ns).length (fun n k wr => ∃ j, j + n = (listsOf ns).length ∧ k = .int .i64 j ∧ Below w3.heap.size w3 wr)
    case atStart => exact ⟨0, by omega, rfl, Below.refl _ _⟩
    case round =>
      obtain ⟨j, hj, rfl, hA⟩ := hrel
      by_cases hk0 : gk = 0
      · subst hk0
        obtain rfl : (listsOf ns).length = j := by omega
        have F := Lib.hid (B3.out.trans (hA.mono B3.out.size))
        clear hA hj
        go_wp2
        go_ret
        exact ⟨rfl, F.out⟩
      · have hjl : j < (listsOf ns).length := by omega
        obtain ⟨l, hl⟩ : ∃ l, (listsOf ns)[j]? = some l := ⟨_, List.getElem?_eq_getElem hjl⟩
        obtain ⟨b1, o1, p1, hv1, cell1⟩ := (NT.out.later hA).cells (by intro q; rw [q] at hl; simp at hl)
        simp only [Value.slice.injEq] at hv1
        obtain ⟨rfl, hz1, rfl⟩ := hv1
        clear hz1
        have e1 := cell1 j l hl
        have SC := Lib.hid (SN.out l (List.mem_of_getElem? hl))
        have SE := Lib.hid (see_s (S3.out.later hA) SC.out.ok SC.out.lst (by decide) (by omega))
        have hle : ((runFrom Md.init ns).seq l).length ≤ 500 := by
          have := SC.out.wf.seq_le l
          have := run_cnt_le _ SC.out.ok (by simp [Md.init])
          omega
        have HJ := Lib.hid hj; have HA := Lib.hid hA
        clear hA hl hj cell1
        go_wp2_with fail
        refine SE.out.mono ?_
        rintro r w4 ⟨x, rfl, hx, _, hb4⟩
        have L4 := Lib.hid (HA.out.trans (hb4.mono HA.out.size))
        obtain ⟨xe, xk, xv, xn⟩ := x
        have hxn := hx.n
        simp only at hxn
        obtain ⟨ea, ec, rfl⟩ : ∃ a c, xe = .slice a xn c := by obtain ⟨a, c, q⟩ := hx.reads.elems.form; rw [names_length, ← hxn] at q; exact ⟨a, c, q⟩
        obtain ⟨ba, bc, rfl⟩ : ∃ a c, xk = .slice a xn c := by obtain ⟨a, c, q⟩ := hx.reads.back.form; rw [List.length_reverse, names_length, ← hxn] at q; exact ⟨a, c, q⟩
        obtain ⟨da, dc, rfl⟩ : ∃ a c, xv = .slice a xn c := by obtain ⟨a, c, q, _⟩ := hx.reads.vals; rw [List.length_map, ← hxn] at q; exact ⟨a, c, q⟩
        obtain ⟨NX, rfl⟩ : ∃ N, N = xn := ⟨_, rfl⟩
        have hNX : NX ≤ 500 := by omega
        have NE := Lib.hid hx.reads.elems
        have NB := Lib.hid hx.reads.back
        have ELT := Lib.hid (fun k (q : (Value.slice ea NX ec).ownBlock = some k) => hx.lt k (.inl q))
        have ND := Lib.hid (own_names (l := l) SC.out.wf SC.out.named)
        have LN := Lib.hid (show ((runFrom Md.init ns).names ((runFrom Md.init ns).seq l)).length = NX by rw [names_length]; exact hxn.symm)
        generalize (runFrom Md.init ns).names ((runFrom Md.init ns).seq l) = L at *
        have CL := Lib.hid (fun o => cloneInt_c (NB.out.later (below1 w4 o)) (by rw [List.length_reverse, LN.out]; omega))
        simp only [SV.agg]
        clear hx hxn hb4 SE e1 hle
        go_wp2_with fail
        refine (CL.out _).mono ?_
        rintro r w6 ⟨vb, rfl, ob, hb6⟩
        rw [List.length_reverse, LN.out] at ob
        have G6 := Lib.hid (heap_later (heap_alloc_new w4 (.cells #[.slice ea NX ec, .slice ba NX bc, .slice da NX dc, .int .i64 (NX : Nat)] 54)) hb6)
        have L6 := Lib.hid (L4.out.trans (((below1 w4 _).trans (hb6.mono (by simp))).mono L4.out.size))
        have NE6 := Lib.hid ((NE.out.later (below1 w4 _)).later hb6)
        have RV := Lib.hid (reverseInt_c ob (by rw [List.length_reverse]; exact LN.out) (by omega))
        have OB := Lib.hid ob
        have szb := hb6.size
        obtain ⟨u1, u2, rfl⟩ := own_len ob
        clear hb6 ob CL
        go_wp2_with fail
        refine RV.out.mono ?_
        rintro r w7 ⟨rfl, ob, hk⟩
        rw [List.reverse_reverse] at ob
        have hlt7 : ∀ k, (Value.slice u1 NX u2).ownBlock = some k → w4.heap.size + 1 ≤ k := fun k q => by have := (OB.out.lt k q).1; simp at this; omega
        have L7 := Lib.hid (L6.out.trans (hk.below (fun k hk _ q => by have := hlt7 k q; have := L4.out.size; omega) L6.out.size))
        have G7 := Lib.hid (((hk.block w4.heap.size (Array.getElem?_eq_some_iff.1 G6.out).1 (fun q => by have := hlt7 _ q; omega))).trans G6.out)
        have NE7 : Hid (Nats w7 (.slice ea NX ec) L) := Sl.keep NE6.out hk (fun b q r => by have := ELT.out b q; have := hlt7 b r; omega)
        have OB7 := Lib.hid ob
        clear hk ob RV hlt7 OB
        have hg7 := (Array.getElem?_eq_some_iff.1 G7.out).1
        have VS := Lib.hid (valuesSeq_c (w := w7) ea NX ec)
        have q0 := cell_of_heap (o := 0) G7.out rfl
        go_wp2_with fail
        refine VS.out.mono ?_
        rintro r w8' ⟨rfl, rfl⟩
        have ST := Lib.hid (sorted_c (w := w7.alloc (.cells #[.slice ea NX ec] 27)) (Bs := w7.heap.size) (sv := .slice ea NX ec) (L := L) (by rw [LN.out]; omega) (cell_of_heap (heap_alloc_new w7 _) rfl) (NE7.out.later (below1 w7 _)))
        clear VS q0
        go_wp2_with fail
        refine ST.out.mono ?_
        rintro r w8 ⟨vs, rfl, ⟨L', hp, os⟩, hb8⟩
        rw [LN.out] at os
        have L8 := Lib.hid (L7.out.trans (((below1 w7 _).trans (hb8.mono (by simp))).mono L7.out.size))
        have G8 := Lib.hid (heap_later (heap_more G7.out (.cells #[.slice ea NX ec] 27)) hb8)
        have NB8 : Hid (Nats w8 (.slice u1 NX u2) L) := by
          have q := Sl.of_own (own_below (OB7.out.alloc (.cells #[.slice ea NX ec] 27)) hb8)
          show Sl _ _ _ _
          rw [LN.out]; exact q
        have NE8 := Lib.hid ((NE7.out.later (below1 w7 _)).later hb8)
        have HP := Lib.hid hp; have OS := Lib.hid os
        have hlt8 := Lib.hid (fun k (q : vs.ownBlock = some k) => show w4.heap.size < k by have := (os.lt k q).1; simp at this; omega)
        obtain ⟨s1, s2, rfl⟩ := own_len os
        have hs8 : w3.heap.size ≤ w8.heap.size := L8.out.size
        clear ST os hp hb8 hg7 G6 G7 NE6 NE7 OB7 L6 L7
        go_wp2_with fail
        refine wp_region_T (fun X : World => X.cell? ⟨w4.heap.size, 0, none⟩ = some (.slice ea NX ec) ∧ X.cell? ⟨w4.heap.size, 3, none⟩ = some (.int .i64 (NX : Nat))) [3, 7] [] run_mixed ?_
        simp only [List.size_toArray, List.length_cons, List.length_nil]
        have HSW : Hid (∀ X : World, X.heap[w4.heap.size]? = some (.cells #[.slice ea NX ec, .slice ba NX bc, .slice da NX dc, .int .i64 (NX : Nat)] 54 (0, 0)) → (fun X : World => X.cell? ⟨w4.heap.size, 0, none⟩ = some (.slice ea NX ec) ∧ X.cell? ⟨w4.heap.size, 3, none⟩ = some (.int .i64 (NX : Nat))) X) := fun X h => ⟨cell_of_heap (o := 0) h rfl, cell_of_heap (o := 3) h rfl⟩
        have hbd : Below w8.heap.size w8 w8.drew := (Below.refl _ w8).drew
        have K0 := Lib.hid hbd
        have GK := Lib.hid (heap_later G8.out hbd)
        generalize w8.drew = wk at *
        have HS := HSW.out _ GK.out
        clear hbd
        refine wpT_takeG (i := 0) (v := ?va0) rfl (by kernel_rfl) (fun _ _ _ h => h) rfl ?ya0 ?ra0
        case ya0 => ((intro wz; go_simp); try with_reducible rfl)
        try simp only [Act.put, List.setIfInBounds_toArray, List.set_cons_zero, List.set_cons_succ]
        refine wpT_takeG (i := 1) (v := ?va1) rfl (by kernel_rfl) (fun _ _ _ h => h) rfl ?ya1 ?ra1
        case ya1 => ((intro wz; go_simp); try with_reducible rfl)
        try simp only [Act.put, List.setIfInBounds_toArray, List.set_cons_zero, List.set_cons_succ]
        refine wpT_loadG (i := 2) (v := ?va2) rfl (by kernel_rfl) (fun _ _ _ h => h) rfl ?ya2 HS ?ra2
        case ya2 => ((intro wz hSw; (try dsimp only at hSw); go_split_ands; go_simp); try with_reducible rfl)
        try simp only [Act.put, List.setIfInBounds_toArray, List.set_cons_zero, List.set_cons_succ]
        refine wpT_runG (i := 3) (by kernel_rfl) rfl rfl ?_
        go_simp
        refine (equalInt_c (NB8.out.later K0.out) (NE8.out.later K0.out) (by rw [LN.out]; omega)).mono ?_
        rintro r wd ⟨rfl, d, rfl⟩
        have K1 := Lib.hid (Below.drewN' K0.out d)
        have GD := Lib.hid (heap_later G8.out K1.out)
        generalize wk.drewN d = wd at *
        have HS := HSW.out _ GD.out
        refine ⟨cond_keep (by decide) HS, ?_⟩
        refine wpT_takeG (i := 4) (v := ?vb4) rfl (by kernel_rfl) (fun _ _ _ h => h) rfl ?yb4 ?rb4
        case yb4 => ((intro wz; go_simp); try with_reducible rfl)
        try simp only [Act.put, List.setIfInBounds_toArray, List.set_cons_zero, List.set_cons_succ]
        refine wpT_takeG (i := 5) (v := ?vb5) rfl (by kernel_rfl) (fun _ _ _ h => h) rfl ?yb5 ?rb5
        case yb5 => ((intro wz; go_simp); try with_reducible rfl)
        try simp only [Act.put, List.setIfInBounds_toArray, List.set_cons_zero, List.set_cons_succ]
        refine wpT_takeG (i := 6) (v := ?vb6) rfl (by kernel_rfl) (fun _ _ _ h => h) rfl ?yb6 ?rb6
        case yb6 => ((intro wz; go_simp); try with_reducible rfl)
        try simp only [Act.put, List.setIfInBounds_toArray, List.set_cons_zero, List.set_cons_succ]
        refine wpT_takeG (i := 9) (v := ?vb9) rfl (by kernel_rfl) (fun _ _ _ h => h) rfl ?yb9 ?rb9
        case yb9 => ((intro wz; go_simp); try with_reducible rfl)
        try simp only [Act.put, List.setIfInBounds_toArray, List.set_cons_zero, List.set_cons_succ]
        refine wpT_loadG (i := 10) (v := ?vb10) rfl (by kernel_rfl) (fun _ _ _ h => h) rfl ?yb10 HS ?rb10
        case yb10 => ((intro wz hSw; (try dsimp only at hSw); go_split_ands; go_simp); try with_reducible rfl)
        try simp only [Act.put, List.setIfInBounds_toArray, List.set_cons_zero, List.set_cons_succ]
        refine wpT_runG (i := 7) (by kernel_rfl) rfl rfl ?_
        go_simp
        have OSD := Lib.hid (own_below OS.out K1.out)
        refine (compactInt_c OSD.out (HP.out.length_eq.trans LN.out) (HP.out.nodup_iff.2 ND.out) (by omega)).mono ?_
        rintro r wb ⟨⟨ca, cc, rfl⟩, hkb⟩
        have GB := Lib.hid ((hkb.block w4.heap.size (Array.getElem?_eq_some_iff.1 GD.out).1 (fun q => by have := hlt8.out _ q; omega)).trans GD.out)
        have LB := Lib.hid ((L8.out.trans (K1.out.mono L8.out.size)).trans ((hkb.below (B := w3.heap.size) (fun k hk _ q => by have := hlt8.out k q; have := L4.out.size; omega) (by have := K1.out.size; omega))))
        refine ⟨cond_keep (by decide) (HSW.out _ GB.out), ?_⟩
        clear hkb HS
        refine wpT_takeG (i := 8) (v := ?vc8) rfl (by kernel_rfl) (fun _ _ _ h => h) rfl ?yc8 ?rc8
        case yc8 => ((intro wz; go_simp); try with_reducible rfl)
        try simp only [Act.put, List.setIfInBounds_toArray, List.set_cons_zero, List.set_cons_succ]
        refine wpT_takeG (i := 11) (v := ?vc11) rfl (by kernel_rfl) (fun _ _ _ h => h) rfl ?yc11 ?rc11
        case yc11 => ((intro wz; go_simp); try with_reducible rfl)
        try simp only [Act.put, List.setIfInBounds_toArray, List.set_cons_zero, List.set_cons_succ]
        refine wpT_takeG (i := 12) (v := ?vc12) rfl (by kernel_rfl) (fun _ _ _ h => h) rfl ?yc12 ?rc12
        case yc12 => ((intro wz; go_simp); try with_reducible rfl)
        try simp only [Act.put, List.setIfInBounds_toArray, List.set_cons_zero, List.set_cons_succ]
        refine wpT_done (by kernel_rfl) ?_ _
        go_wp2
        go_roundg (gk - 1)
        case measure => omega
        case rel => exact ⟨j + 1, by have := HJ.out; omega, by go_num, LB.out⟩
end Bead
end Go.Proofs.Ytidnmanljdadaaa
