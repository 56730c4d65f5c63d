/- FnNextAndPrevAreInverse returns true. -/
import Derived.Test.YtbpbbmamgajimaaScene
set_option linter.all false
namespace Go.Proofs.Ytbpbbmamgajimaa
open Go.RowKit
namespace Bead
set_option maxRecDepth 100000

/-- The neighbour of the element at a place. -/
def nbOf (rev : Bool) (s : List Nat) (k : Nat) : Option Nat := if rev then (if k = 0 then none else s[k - 1]?) else s[k + 1]?
theorem step_on {M : Md} (h : WF M) (rev : Bool) {l k e i : Nat} (he : (M.seq l)[k]? = some e) (hr : M.ret i = some e) : M.step (cOn rev i) = M.grow.answer M.len (nbOf rev (M.seq l) k) := by
  cases rev
  · rw [step_18 M (c := cOn false i) rfl (by simpa [cOn] using hr), next_at h he]; rfl
  · rw [step_19 M (c := cOn true i) rfl (by simpa [cOn] using hr), prev_at h he]; rfl
theorem nb_mem {rev : Bool} {s : List Nat} {k f : Nat} (h : nbOf rev s k = some f) : f ∈ s := by
  unfold nbOf at h
  split at h
  · split at h
    · simp at h
    · exact List.mem_of_getElem? h
  · exact List.mem_of_getElem? h
section
variable {ns : List Cl} {l k e i : Nat}
theorem one_on (h : Scened ns l) (rev : Bool) (he : ((runFrom Md.init ns).seq l)[k]? = some e) (hi : (runFrom Md.init ns).fst e = some i) :
    okFrom 500 Md.init (ns ++ [cOn rev i]) = true ∧ ∃ a : An, ansFrom (runFrom Md.init ns) [cOn rev i] = [a] ∧ (nbOf rev ((runFrom Md.init ns).seq l) k = none → a.elem = -1) ∧ (nbOf rev ((runFrom Md.init ns).seq l) k ≠ none → 0 ≤ a.elem) := by
  have hr := (h.wf.fst1 e i hi).1
  have hm := List.mem_of_getElem? he
  refine ⟨?_, _, rfl, fun q => ?_, fun q => ?_⟩
  · rw [okFrom_append, h.ok]
    simp only [okFrom, Bool.and_true, Bool.true_and]
    exact (permitted_iff _ _ _).2 (perm_on h.wf rev hr (clr_in h.wf hm))
  · rw [step_on h.wf rev he hr, q]; rfl
  · rw [step_on h.wf rev he hr]
    cases hf : nbOf rev ((runFrom Md.init ns).seq l) k with
    | none => exact absurd hf q
    | some f => simp only [Md.answer, Md.num]; omega
theorem two_on (h : Scened ns l) (rev : Bool) (he : ((runFrom Md.init ns).seq l)[k]? = some e) (hi : (runFrom Md.init ns).fst e = some i) (hne : nbOf rev ((runFrom Md.init ns).seq l) k ≠ none) :
    okFrom 500 Md.init (ns ++ [cOn rev i, cOn (!rev) ns.length]) = true ∧ ∃ a b : An, ansFrom (runFrom Md.init ns) [cOn rev i, cOn (!rev) ns.length] = [a, b] ∧ b.elem = i := by
  have hw := h.wf
  have hr := (hw.fst1 e i hi).1
  have hm := List.mem_of_getElem? he
  have hlen : (runFrom Md.init ns).len = ns.length := run_init_len ns
  obtain ⟨f, hf⟩ : ∃ f, nbOf rev ((runFrom Md.init ns).seq l) k = some f := Option.ne_none_iff_exists'.1 hne
  have hfm := nb_mem hf
  have p1 := perm_on (most := 500) hw rev hr (clr_in hw hm)
  have s1 := step_on hw rev he hr
  have hw1 := hw.step p1
  have st : ((runFrom Md.init ns).step (cOn rev i)).1 = (runFrom Md.init ns).grow.give (runFrom Md.init ns).len f := by rw [s1, hf]; rfl
  rw [st] at hw1
  have hr1 : ((runFrom Md.init ns).grow.give (runFrom Md.init ns).len f).ret ns.length = some f := by
    rw [hlen]; exact upd_same _ _ _
  have hc1 : ((runFrom Md.init ns).grow.give (runFrom Md.init ns).len f).clr f = none := clr_in hw hfm
  have hf1 : ((runFrom Md.init ns).grow.give (runFrom Md.init ns).len f).fst e = some i := by
    have := (step_kept (runFrom Md.init ns) (cOn rev i)).fst e i hi
    rw [st] at this; exact this
  have hkl := (List.getElem?_eq_some_iff.1 he).1
  -- the neighbour's place, and back
  obtain ⟨k', hk', hb⟩ : ∃ k', ((runFrom Md.init ns).seq l)[k']? = some f ∧ nbOf (!rev) ((runFrom Md.init ns).seq l) k' = some e := by
    cases rev
    · simp only [nbOf, Bool.false_eq_true, if_false] at hf
      refine ⟨k + 1, hf, ?_⟩
      simp only [nbOf, Bool.not_false, if_true]
      rw [if_neg (by omega)]; exact he
    · simp only [nbOf, if_true] at hf
      by_cases z : k = 0
      · rw [if_pos z] at hf; simp at hf
      · rw [if_neg z] at hf
        refine ⟨k - 1, hf, ?_⟩
        simp only [nbOf, Bool.not_true, Bool.false_eq_true, if_false]
        rw [show k - 1 + 1 = k by omega]; exact he
  have s2 := step_on hw1 (!rev) (l := l) (k := k') (e := f) (i := ns.length) hk' hr1
  refine ⟨?_, _, _, rfl, ?_⟩
  · rw [okFrom_append, h.ok]
    simp only [okFrom, Bool.and_true, Bool.true_and, Bool.and_eq_true]
    refine ⟨(permitted_iff _ _ _).2 p1, ?_⟩
    rw [st]
    exact (permitted_iff _ _ _).2 (perm_on hw1 (!rev) hr1 hc1)
  · rw [st, s2]
    have hb' : nbOf (!rev) (((runFrom Md.init ns).grow.give (runFrom Md.init ns).len f).seq l) k' = some e := hb
    rw [hb']
    simp only [Md.answer, Md.num]
    have : (((runFrom Md.init ns).grow.give (runFrom Md.init ns).len f).grow.fst e) = some i := hf1
    rw [this]; rfl
end

theorem lists_scene {ns : List Cl} {l k : Nat} (h : Scened ns l) (hk : k ∈ listsOf ns) : Scened ns k := ⟨h.ok, h.wf, mem_lists k hk, h.named, h.len⟩
/-- The cells of two answers. -/
theorem two_cells {w : World} {v : Value} {a b : An} (h : Sl w v 2 ([a, b].flatMap An.cells)) : ∃ g o c, v = .slice (some ⟨g, o, none⟩) 2 c ∧ w.cell? ⟨g, o + 5, none⟩ = some (.int .i64 b.elem) := by
  obtain ⟨g, o, c, hv, hc⟩ := h.elem (l := [a, b]) An.cells_length (by decide) (by simp)
  exact ⟨g, o, c, hv, hc 1 b rfl 0 _ rfl⟩
theorem one_cells {w : World} {v : Value} {a : An} (h : Sl w v 1 ([a].flatMap An.cells)) : ∃ g o c, v = .slice (some ⟨g, o, none⟩) 1 c ∧ w.cell? ⟨g, o, none⟩ = some (.int .i64 a.elem) := by
  obtain ⟨g, o, c, hv, hc⟩ := h.elem (l := [a]) An.cells_length (by decide) (by simp)
  exact ⟨g, o, c, hv, by simpa using hc 0 a rfl 0 _ rfl⟩

set_option maxHeartbeats 8000000 in
theorem nextPrev_c {w : World} {v : Value} {cs : List Cl} (s : Scr w v cs) (hn : cs.length ≤ 1048576) :
    Calls Try.prog 4 #[v] w fun r w' => r = .returned (.bool true) ∧ Below w.heap.size w w' := by
  have PM := Lib.hid (permittedL_c s.sl (by omega))
  have S := Lib.hid s
  clear s
  go_enter Try.func4, Try.ntmps4
  go_wp2_with fail
  refine PM.out.mono ?_
  rintro r w1 ⟨rfl, hb1⟩
  have B1 := Lib.hid hb1
  clear hb1 PM
  cases hok : okFrom 500 Md.init cs with
  | false =>
    clear hok
    go_wp2
    go_ret
    exact ⟨rfl, B1.out⟩
  | true =>
    have NM := Lib.hid (named_c (S.out.later B1.out) hok hn)
    have HOK := Lib.hid hok
    clear hok
    go_wp2_with fail
    refine NM.out.mono ?_
    rintro r w2 ⟨vs, rfl, s2, hb2⟩
    have B2 := Lib.hid (B1.out.trans (hb2.mono B1.out.size))
    have SN : Hid (∀ l ∈ listsOf (namedC cs), Scened (namedC cs) l) := fun l hl => named_scene HOK.out hn (by rw [← named_lists]; exact hl)
    have hln : (namedC cs).length ≤ 600000000 ∨ listsOf (namedC cs) = [] := by
      rcases q : listsOf (namedC cs) with _ | ⟨a, b⟩
      · exact .inr rfl
      · exact .inl (SN.out a (by rw [q]; simp)).len
    have hln2 : (namedC cs).length ≤ 600000000 := by
      rcases hln with q | q
      · exact q
      · have : namedC cs = cs := by unfold namedC; rw [← named_lists, q]; simp [Md.tour]
        rw [this]; omega
    generalize hns : namedC cs = ns at *
    clear hns hln
    have LS := Lib.hid (lists_c s2 (by omega))
    have S2 := Lib.hid s2
    clear s2 hb2 NM
    go_wp2_with fail
    refine LS.out.mono ?_
    rintro r w3 ⟨vl, rfl, rl, hb3⟩
    have B3 := Lib.hid (B2.out.trans (hb3.mono B2.out.size))
    have S3 := Lib.hid (S2.out.later hb3)
    have NT : Hid (Nats w3 vl (listsOf ns)) := Nats.of_own rl
    have hll : (listsOf ns).length ≤ ns.length := listsAt_length ns 0
    obtain ⟨x1, x2, rfl⟩ := own_len rl
    obtain ⟨y1, y2, rfl⟩ := S2.out.form
    clear hb3 rl LS
    go_wp2_with fail
    go_loopg [3, 22] (listsOf ns).length (fun n o k wr => ∃ j, j + n = (listsOf ns).length ∧ o = .bool true ∧ k = .int .i64 j ∧ Below w3.heap.size w3 wr)
    case atStart => exact ⟨0, by omega, rfl, rfl, Below.refl _ _⟩
    case round =>
      obtain ⟨j, hj, rfl, rfl, hb⟩ := hrel
      by_cases hk0 : gk = 0
      · subst hk0
        obtain rfl : j = (listsOf ns).length := by omega
        have F := Lib.hid (B3.out.trans (hb.mono B3.out.size))
        clear hb hj
        go_wp2
        go_ret
        exact ⟨rfl, F.out⟩
      · have hjl : j < (listsOf ns).length := by omega
        obtain ⟨l, hl⟩ : ∃ l, (listsOf ns)[j]? = some l := ⟨_, List.getElem?_eq_getElem hjl⟩
        obtain ⟨b1, o1, p1, hv1, cell1⟩ := NT.out.cells (by intro q; rw [q] at hl; simp at hl)
        simp only [Value.slice.injEq] at hv1
        obtain ⟨rfl, hz1, rfl⟩ := hv1
        clear hz1
        have hbl : b1 < w3.heap.size := World.block_lt_of_cell? w3 _ (cell1 j l hl)
        have e1 := (hb.cell (p := ⟨b1, o1 + j, none⟩) hbl).trans (cell1 j l hl)
        have SC := Lib.hid (SN.out l (List.mem_of_getElem? hl))
        have FW := Lib.hid (forward_c (S3.out.later hb) SC.out.ok SC.out.lst (by decide) (by omega))
        have HB := Lib.hid hb; have HJ := Lib.hid hj
        clear hb hl hj cell1
        obtain ⟨wo, rfl⟩ : ∃ wo : World, wo = wr := ⟨_, rfl⟩
        obtain ⟨G, rfl⟩ : ∃ G : Nat, G = gk := ⟨_, rfl⟩
        go_wp2_with fail
        refine FW.out.mono ?_
        rintro r w4 ⟨v2, v3, rfl, _, o4, hb4⟩
        have B4 := Lib.hid (HB.out.trans (hb4.mono HB.out.size))
        have S4 := Lib.hid ((S3.out.later HB.out).later hb4)
        obtain ⟨z1, z2, rfl⟩ := own_len o4
        have NL := Lib.hid (names_length (m := runFrom Md.init ns) ((runFrom Md.init ns).seq l))
        have NE : Hid (Nats w4 (.slice z1 ((runFrom Md.init ns).seq l).length z2) ((runFrom Md.init ns).names ((runFrom Md.init ns).seq l))) := by
          show Sl _ _ _ _
          rw [NL.out]; exact Sl.of_own o4
        have hl5 := scene_len SC.out
        clear hb4 o4 FW e1
        go_wp2_with fail
        go_loopg [39] ((runFrom Md.init ns).seq l).length (fun n k wr => ∃ i, i + n = ((runFrom Md.init ns).seq l).length ∧ k = .int .i64 i ∧ Below w4.heap.size w4 wr)
        case atStart => exact ⟨0, by omega, rfl, Below.refl _ _⟩
        case round =>
          obtain ⟨k, hk, rfl, hbk⟩ := hrel
          by_cases hk0 : gk = 0
          · subst hk0
            have F := Lib.hid (B4.out.trans (hbk.mono B4.out.size))
            obtain rfl : k = ((runFrom Md.init ns).seq l).length := by omega
            clear hbk hk
            go_wp2
            go_roundg (G - 1)
            case measure => omega
            case rel => exact ⟨j + 1, by have := HJ.out; omega, rfl, by go_num, F.out⟩
          · have hkl : k < ((runFrom Md.init ns).seq l).length := by omega
            obtain ⟨i, hi⟩ : ∃ i, ((runFrom Md.init ns).names ((runFrom Md.init ns).seq l))[k]? = some i := ⟨_, List.getElem?_eq_getElem (by rw [NL.out]; exact hkl)⟩
            obtain ⟨b2, o2, p2, hv2, cell2⟩ := NE.out.cells (by intro q; rw [q] at hi; simp at hi)
            rw [NL.out] at hv2
            simp only [Value.slice.injEq] at hv2
            obtain ⟨rfl, hz2, rfl⟩ := hv2
            clear hz2
            have hbl : b2 < w4.heap.size := World.block_lt_of_cell? w4 _ (cell2 k i hi)
            have e2 := (hbk.cell (p := ⟨b2, o2 + k, none⟩) hbl).trans (cell2 k i hi)
            obtain ⟨e, he, hfe, hre⟩ := scene_get SC.out hi
            obtain ⟨n1, a1, n2, n3, n4⟩ := one_on SC.out false he hfe
            obtain ⟨q1, a2, q2, q3, q4⟩ := one_on SC.out true he hfe
            have t1 := fun z => two_on SC.out false he hfe z
            have t2 := fun z => two_on SC.out true he hfe z
            have m1 : nbOf false ((runFrom Md.init ns).seq l) k = none ↔ k + 1 = ((runFrom Md.init ns).seq l).length := by
              simp only [nbOf, Bool.false_eq_true, if_false, List.getElem?_eq_none_iff]; omega
            have m2 : nbOf true ((runFrom Md.init ns).seq l) k = none ↔ k = 0 := by
              simp only [nbOf, if_true]
              by_cases z : k = 0
              · simp [z]
              · rw [if_neg z, List.getElem?_eq_none_iff]; omega
            have SK := Lib.hid (S4.out.later hbk)
            have T1 := Lib.hid t1; have T2 := Lib.hid t2; have M1 := Lib.hid m1; have M2 := Lib.hid m2
            have N3 := Lib.hid n3; have N4 := Lib.hid n4; have Q3 := Lib.hid q3; have Q4 := Lib.hid q4; have N2 := Lib.hid n2; have Q2 := Lib.hid q2; have N1 := Lib.hid n1; have Q1 := Lib.hid q1
            have HBK := Lib.hid hbk; have HK := Lib.hid hk
            clear hbk hk hi cell2 he hfe hre n1 n2 n3 n4 q1 q2 q3 q4 t1 t2 m1 m2
            have BA : Hid (∀ t, Calls Try.prog 24 #[.slice y1 ns.length y2, .slice (some ⟨wr.heap.size, 0, none⟩) 1 1] (wr.alloc (.cells #[.int .i64 18, .int .i64 0, .int .i64 0, .int .i64 i, .int .i64 0, .int .i64 0, .int .i64 0, .string ⟨#[]⟩] t)) fun r w' => ∃ v', r = .returned v' ∧ Sl w' v' 1 ((ansFrom (runFrom Md.init ns) [cOn false i]).flatMap An.cells) ∧ Value.room (wr.alloc (.cells #[.int .i64 18, .int .i64 0, .int .i64 0, .int .i64 i, .int .i64 0, .int .i64 0, .int .i64 0, .string ⟨#[]⟩] t)).heap.size v' ∧ Below (wr.alloc (.cells #[.int .i64 18, .int .i64 0, .int .i64 0, .int .i64 i, .int .i64 0, .int .i64 0, .int .i64 0, .string ⟨#[]⟩] t)).heap.size (wr.alloc (.cells #[.int .i64 18, .int .i64 0, .int .i64 0, .int .i64 i, .int .i64 0, .int .i64 0, .int .i64 0, .string ⟨#[]⟩] t)) w') := fun t =>
              behind_c (b := [cOn false i]) (SK.out.later (below1 wr _)) (scr_lit wr [cOn false i] t wr.heap.size 1 rfl rfl (by simp [cOn]; exact vl_zero_ok)) N1.out (by decide) (by simp; omega)
            go_wp2_with fail
            refine (BA.out _).mono ?_
            rintro r w5 ⟨v5, rfl, s5, _, hb5⟩
            rw [N2.out] at s5
            obtain ⟨g5, f5, c5, rfl, d5⟩ := one_cells s5
            have B5 := Lib.hid (HBK.out.trans (((below1 wr _).trans (hb5.mono (by simp))).mono HBK.out.size))
            have S5 := Lib.hid ((SK.out.later (below1 wr _)).later hb5)
            clear s5 hb5 BA
            have BB : Hid (∀ t, Calls Try.prog 24 #[.slice y1 ns.length y2, .slice (some ⟨w5.heap.size, 0, none⟩) 1 1] (w5.alloc (.cells #[.int .i64 19, .int .i64 0, .int .i64 0, .int .i64 i, .int .i64 0, .int .i64 0, .int .i64 0, .string ⟨#[]⟩] t)) fun r w' => ∃ v', r = .returned v' ∧ Sl w' v' 1 ((ansFrom (runFrom Md.init ns) [cOn true i]).flatMap An.cells) ∧ Value.room (w5.alloc (.cells #[.int .i64 19, .int .i64 0, .int .i64 0, .int .i64 i, .int .i64 0, .int .i64 0, .int .i64 0, .string ⟨#[]⟩] t)).heap.size v' ∧ Below (w5.alloc (.cells #[.int .i64 19, .int .i64 0, .int .i64 0, .int .i64 i, .int .i64 0, .int .i64 0, .int .i64 0, .string ⟨#[]⟩] t)).heap.size (w5.alloc (.cells #[.int .i64 19, .int .i64 0, .int .i64 0, .int .i64 i, .int .i64 0, .int .i64 0, .int .i64 0, .string ⟨#[]⟩] t)) w') := fun t =>
              behind_c (b := [cOn true i]) (S5.out.later (below1 w5 _)) (scr_lit w5 [cOn true i] t w5.heap.size 1 rfl rfl (by simp [cOn]; exact vl_zero_ok)) Q1.out (by decide) (by simp; omega)
            go_wp2_with fail
            refine (BB.out _).mono ?_
            rintro r w6 ⟨v6, rfl, s6, _, hb6⟩
            rw [Q2.out] at s6
            obtain ⟨g6, f6, c6, rfl, d6⟩ := one_cells s6
            have B6 := Lib.hid (B5.out.trans (((below1 w5 _).trans (hb6.mono (by simp))).mono B5.out.size))
            have S6 := Lib.hid ((S5.out.later (below1 w5 _)).later hb6)
            clear s6 hb6 BB d5
            by_cases hcl : k + 1 = ((runFrom Md.init ns).seq l).length
            · by_cases hcf : k = 0
              · have x1 : a1.elem = -1 := N3.out (M1.out.2 hcl)
                have y1' : a2.elem = -1 := Q3.out (M2.out.2 hcf)
                have x2 : (((runFrom Md.init ns).seq l).length : Int) - 1 = (k : Int) := by omega
                subst hcf
                clear hcl
                go_wp2
                go_roundg (gk - 1)
                case measure => omega
                case rel => exact ⟨0 + 1, by have := HK.out; omega, by go_num, B6.out⟩
              · obtain ⟨l1, a4, b4, l2, l3⟩ := T2.out (fun q => hcf (M2.out.1 q))
                have L1 := Lib.hid l1; have L2 := Lib.hid l2; have L3 := Lib.hid l3
                clear l1 l2 l3
                have x1 : a1.elem = -1 := N3.out (M1.out.2 hcl)
                have y0 := Q4.out (fun q => hcf (M2.out.1 q))
                have y1' : decide (a2.elem < 0) = false := by simp; omega
                have x2 : (((runFrom Md.init ns).seq l).length : Int) - 1 = (k : Int) := by omega
                have y2' : ((k : Int) == 0) = false := by simp; omega
                clear hcl hcf
                have BD : Hid (∀ t, Calls Try.prog 24 #[.slice y1 ns.length y2, .slice (some ⟨w6.heap.size, 0, none⟩) 2 2] (w6.alloc (.cells #[.int .i64 19, .int .i64 0, .int .i64 0, .int .i64 i, .int .i64 0, .int .i64 0, .int .i64 0, .string ⟨#[]⟩, .int .i64 18, .int .i64 0, .int .i64 0, .int .i64 ns.length, .int .i64 0, .int .i64 0, .int .i64 0, .string ⟨#[]⟩] t)) fun r w' => ∃ v', r = .returned v' ∧ Sl w' v' 2 ((ansFrom (runFrom Md.init ns) [cOn true i, cOn false ns.length]).flatMap An.cells) ∧ Value.room (w6.alloc (.cells #[.int .i64 19, .int .i64 0, .int .i64 0, .int .i64 i, .int .i64 0, .int .i64 0, .int .i64 0, .string ⟨#[]⟩, .int .i64 18, .int .i64 0, .int .i64 0, .int .i64 ns.length, .int .i64 0, .int .i64 0, .int .i64 0, .string ⟨#[]⟩] t)).heap.size v' ∧ Below (w6.alloc (.cells #[.int .i64 19, .int .i64 0, .int .i64 0, .int .i64 i, .int .i64 0, .int .i64 0, .int .i64 0, .string ⟨#[]⟩, .int .i64 18, .int .i64 0, .int .i64 0, .int .i64 ns.length, .int .i64 0, .int .i64 0, .int .i64 0, .string ⟨#[]⟩] t)).heap.size (w6.alloc (.cells #[.int .i64 19, .int .i64 0, .int .i64 0, .int .i64 i, .int .i64 0, .int .i64 0, .int .i64 0, .string ⟨#[]⟩, .int .i64 18, .int .i64 0, .int .i64 0, .int .i64 ns.length, .int .i64 0, .int .i64 0, .int .i64 0, .string ⟨#[]⟩] t)) w') := fun t =>
                  behind_c (b := [cOn true i, cOn false ns.length]) (S6.out.later (below1 w6 _)) (scr_lit w6 [cOn true i, cOn false ns.length] t w6.heap.size 2 rfl rfl (by simp [cOn]; exact vl_zero_ok)) L1.out (by decide) (by simp; omega)
                go_wp2_with fail
                refine (BD.out _).mono ?_
                rintro r w8 ⟨v8, rfl, s8, _, hb8⟩
                rw [show [cOn true i, cOn false ns.length] = [cOn true i, cOn (!true) ns.length] from rfl, L2.out] at s8
                obtain ⟨g8, f8, c8, rfl, d8⟩ := two_cells s8
                rw [L3.out] at d8
                have B8 := Lib.hid (B6.out.trans (((below1 w6 _).trans (hb8.mono (by simp))).mono B6.out.size))
                clear s8 hb8 BD
                go_wp2
                go_roundg (gk - 1)
                case measure => omega
                case rel => exact ⟨k + 1, by have := HK.out; omega, by go_num, B8.out⟩
            · by_cases hcf : k = 0
              · obtain ⟨k1, a3, b3, k2, k3⟩ := T1.out (fun q => hcl (M1.out.1 q))
                have K1 := Lib.hid k1; have K2 := Lib.hid k2; have K3 := Lib.hid k3
                clear k1 k2 k3
                have x0 := N4.out (fun q => hcl (M1.out.1 q))
                have x1 : decide (a1.elem < 0) = false := by simp; omega
                have y1' : a2.elem = -1 := Q3.out (M2.out.2 hcf)
                have x2 : ¬ (0 : Int) = (((runFrom Md.init ns).seq l).length : Int) - 1 := by omega
                have x3 : ¬ (((runFrom Md.init ns).seq l).length : Int) - 1 = 0 := by omega
                have x4 : ¬ (((runFrom Md.init ns).seq l).length : Int) = 1 := by omega
                have x5 : ¬ ((runFrom Md.init ns).seq l).length = 1 := by omega
                subst hcf
                clear hcl
                have BC : Hid (∀ t, Calls Try.prog 24 #[.slice y1 ns.length y2, .slice (some ⟨w6.heap.size, 0, none⟩) 2 2] (w6.alloc (.cells #[.int .i64 18, .int .i64 0, .int .i64 0, .int .i64 i, .int .i64 0, .int .i64 0, .int .i64 0, .string ⟨#[]⟩, .int .i64 19, .int .i64 0, .int .i64 0, .int .i64 ns.length, .int .i64 0, .int .i64 0, .int .i64 0, .string ⟨#[]⟩] t)) fun r w' => ∃ v', r = .returned v' ∧ Sl w' v' 2 ((ansFrom (runFrom Md.init ns) [cOn false i, cOn true ns.length]).flatMap An.cells) ∧ Value.room (w6.alloc (.cells #[.int .i64 18, .int .i64 0, .int .i64 0, .int .i64 i, .int .i64 0, .int .i64 0, .int .i64 0, .string ⟨#[]⟩, .int .i64 19, .int .i64 0, .int .i64 0, .int .i64 ns.length, .int .i64 0, .int .i64 0, .int .i64 0, .string ⟨#[]⟩] t)).heap.size v' ∧ Below (w6.alloc (.cells #[.int .i64 18, .int .i64 0, .int .i64 0, .int .i64 i, .int .i64 0, .int .i64 0, .int .i64 0, .string ⟨#[]⟩, .int .i64 19, .int .i64 0, .int .i64 0, .int .i64 ns.length, .int .i64 0, .int .i64 0, .int .i64 0, .string ⟨#[]⟩] t)).heap.size (w6.alloc (.cells #[.int .i64 18, .int .i64 0, .int .i64 0, .int .i64 i, .int .i64 0, .int .i64 0, .int .i64 0, .string ⟨#[]⟩, .int .i64 19, .int .i64 0, .int .i64 0, .int .i64 ns.length, .int .i64 0, .int .i64 0, .int .i64 0, .string ⟨#[]⟩] t)) w') := fun t =>
                  behind_c (b := [cOn false i, cOn true ns.length]) (S6.out.later (below1 w6 _)) (scr_lit w6 [cOn false i, cOn true ns.length] t w6.heap.size 2 rfl rfl (by simp [cOn]; exact vl_zero_ok)) K1.out (by decide) (by simp; omega)
                go_wp2_with fail
                refine (BC.out _).mono ?_
                rintro r w7 ⟨v7, rfl, s7, _, hb7⟩
                rw [show [cOn false i, cOn true ns.length] = [cOn false i, cOn (!false) ns.length] from rfl, K2.out] at s7
                obtain ⟨g7, f7, c7, rfl, d7⟩ := two_cells s7
                rw [K3.out] at d7
                have B7 := Lib.hid (B6.out.trans (((below1 w6 _).trans (hb7.mono (by simp))).mono B6.out.size))
                have S7 := Lib.hid ((S6.out.later (below1 w6 _)).later hb7)
                clear s7 hb7 BC d6
                go_wp2
                go_roundg (gk - 1)
                case measure => omega
                case rel => exact ⟨0 + 1, by have := HK.out; omega, by go_num, B7.out⟩
              · obtain ⟨k1, a3, b3, k2, k3⟩ := T1.out (fun q => hcl (M1.out.1 q))
                have K1 := Lib.hid k1; have K2 := Lib.hid k2; have K3 := Lib.hid k3
                clear k1 k2 k3
                obtain ⟨l1, a4, b4, l2, l3⟩ := T2.out (fun q => hcf (M2.out.1 q))
                have L1 := Lib.hid l1; have L2 := Lib.hid l2; have L3 := Lib.hid l3
                clear l1 l2 l3
                have x0 := N4.out (fun q => hcl (M1.out.1 q))
                have x1 : decide (a1.elem < 0) = false := by simp; omega
                have y0 := Q4.out (fun q => hcf (M2.out.1 q))
                have y1' : decide (a2.elem < 0) = false := by simp; omega
                have x2 : ((k : Int) == (((runFrom Md.init ns).seq l).length : Int) - 1) = false := by simp; omega
                have y2' : ((k : Int) == 0) = false := by simp; omega
                clear hcl hcf
                have BC : Hid (∀ t, Calls Try.prog 24 #[.slice y1 ns.length y2, .slice (some ⟨w6.heap.size, 0, none⟩) 2 2] (w6.alloc (.cells #[.int .i64 18, .int .i64 0, .int .i64 0, .int .i64 i, .int .i64 0, .int .i64 0, .int .i64 0, .string ⟨#[]⟩, .int .i64 19, .int .i64 0, .int .i64 0, .int .i64 ns.length, .int .i64 0, .int .i64 0, .int .i64 0, .string ⟨#[]⟩] t)) fun r w' => ∃ v', r = .returned v' ∧ Sl w' v' 2 ((ansFrom (runFrom Md.init ns) [cOn false i, cOn true ns.length]).flatMap An.cells) ∧ Value.room (w6.alloc (.cells #[.int .i64 18, .int .i64 0, .int .i64 0, .int .i64 i, .int .i64 0, .int .i64 0, .int .i64 0, .string ⟨#[]⟩, .int .i64 19, .int .i64 0, .int .i64 0, .int .i64 ns.length, .int .i64 0, .int .i64 0, .int .i64 0, .string ⟨#[]⟩] t)).heap.size v' ∧ Below (w6.alloc (.cells #[.int .i64 18, .int .i64 0, .int .i64 0, .int .i64 i, .int .i64 0, .int .i64 0, .int .i64 0, .string ⟨#[]⟩, .int .i64 19, .int .i64 0, .int .i64 0, .int .i64 ns.length, .int .i64 0, .int .i64 0, .int .i64 0, .string ⟨#[]⟩] t)).heap.size (w6.alloc (.cells #[.int .i64 18, .int .i64 0, .int .i64 0, .int .i64 i, .int .i64 0, .int .i64 0, .int .i64 0, .string ⟨#[]⟩, .int .i64 19, .int .i64 0, .int .i64 0, .int .i64 ns.length, .int .i64 0, .int .i64 0, .int .i64 0, .string ⟨#[]⟩] t)) w') := fun t =>
                  behind_c (b := [cOn false i, cOn true ns.length]) (S6.out.later (below1 w6 _)) (scr_lit w6 [cOn false i, cOn true ns.length] t w6.heap.size 2 rfl rfl (by simp [cOn]; exact vl_zero_ok)) K1.out (by decide) (by simp; omega)
                go_wp2_with fail
                refine (BC.out _).mono ?_
                rintro r w7 ⟨v7, rfl, s7, _, hb7⟩
                rw [show [cOn false i, cOn true ns.length] = [cOn false i, cOn (!false) ns.length] from rfl, K2.out] at s7
                obtain ⟨g7, f7, c7, rfl, d7⟩ := two_cells s7
                rw [K3.out] at d7
                have B7 := Lib.hid (B6.out.trans (((below1 w6 _).trans (hb7.mono (by simp))).mono B6.out.size))
                have S7 := Lib.hid ((S6.out.later (below1 w6 _)).later hb7)
                clear s7 hb7 BC d6
                have BD : Hid (∀ t, Calls Try.prog 24 #[.slice y1 ns.length y2, .slice (some ⟨w7.heap.size, 0, none⟩) 2 2] (w7.alloc (.cells #[.int .i64 19, .int .i64 0, .int .i64 0, .int .i64 i, .int .i64 0, .int .i64 0, .int .i64 0, .string ⟨#[]⟩, .int .i64 18, .int .i64 0, .int .i64 0, .int .i64 ns.length, .int .i64 0, .int .i64 0, .int .i64 0, .string ⟨#[]⟩] t)) fun r w' => ∃ v', r = .returned v' ∧ Sl w' v' 2 ((ansFrom (runFrom Md.init ns) [cOn true i, cOn false ns.length]).flatMap An.cells) ∧ Value.room (w7.alloc (.cells #[.int .i64 19, .int .i64 0, .int .i64 0, .int .i64 i, .int .i64 0, .int .i64 0, .int .i64 0, .string ⟨#[]⟩, .int .i64 18, .int .i64 0, .int .i64 0, .int .i64 ns.length, .int .i64 0, .int .i64 0, .int .i64 0, .string ⟨#[]⟩] t)).heap.size v' ∧ Below (w7.alloc (.cells #[.int .i64 19, .int .i64 0, .int .i64 0, .int .i64 i, .int .i64 0, .int .i64 0, .int .i64 0, .string ⟨#[]⟩, .int .i64 18, .int .i64 0, .int .i64 0, .int .i64 ns.length, .int .i64 0, .int .i64 0, .int .i64 0, .string ⟨#[]⟩] t)).heap.size (w7.alloc (.cells #[.int .i64 19, .int .i64 0, .int .i64 0, .int .i64 i, .int .i64 0, .int .i64 0, .int .i64 0, .string ⟨#[]⟩, .int .i64 18, .int .i64 0, .int .i64 0, .int .i64 ns.length, .int .i64 0, .int .i64 0, .int .i64 0, .string ⟨#[]⟩] t)) w') := fun t =>
                  behind_c (b := [cOn true i, cOn false ns.length]) (S7.out.later (below1 w7 _)) (scr_lit w7 [cOn true i, cOn false ns.length] t w7.heap.size 2 rfl rfl (by simp [cOn]; exact vl_zero_ok)) L1.out (by decide) (by simp; omega)
                go_wp2_with fail
                refine (BD.out _).mono ?_
                rintro r w8 ⟨v8, rfl, s8, _, hb8⟩
                rw [show [cOn true i, cOn false ns.length] = [cOn true i, cOn (!true) ns.length] from rfl, L2.out] at s8
                obtain ⟨g8, f8, c8, rfl, d8⟩ := two_cells s8
                rw [L3.out] at d8
                have B8 := Lib.hid (B7.out.trans (((below1 w7 _).trans (hb8.mono (by simp))).mono B7.out.size))
                clear s8 hb8 BD
                go_wp2
                go_roundg (gk - 1)
                case measure => omega
                case rel => exact ⟨k + 1, by have := HK.out; omega, by go_num, B8.out⟩
end Bead
end Go.Proofs.Ytbpbbmamgajimaa
