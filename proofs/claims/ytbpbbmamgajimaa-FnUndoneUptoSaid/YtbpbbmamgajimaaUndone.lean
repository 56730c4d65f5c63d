/- FnUndone returns true. -/
import Derived.Test.YtbpbbmamgajimaaScene2
import Derived.Test.YtbpbbmamgajimaaMoves
import Derived.Test.YtbpbbmamgajimaaShelfQ
import Derived.Test.YtbpbbmamgajimaaLast4
import Derived.Test.YtbpbbmamgajimaaLooks
set_option linter.all false
namespace Go.Proofs.Ytbpbbmamgajimaa
open Go.RowKit
namespace Bead
set_option maxRecDepth 100000

/-- The state in the midst of the moves. -/
theorem undo_state {ns mv : List Cl} (hok : okFrom 500 Md.init ns = true) (hn : ∀ k e, e ∈ (runFrom Md.init ns).seq k → ∃ i, (runFrom Md.init ns).fst e = some i) (ho : okFrom 500 Md.init (ns ++ mv) = true) {j : Nat} (hc : ∀ c ∈ mv.take j, 7 ≤ c.op ∧ c.op ≤ 10) :
    okFrom 500 Md.init (ns ++ mv.take j) = true ∧ WF (runFrom Md.init (ns ++ mv.take j)) ∧ (∀ k e, e ∈ (runFrom Md.init (ns ++ mv.take j)).seq k → ∃ i, (runFrom Md.init (ns ++ mv.take j)).fst e = some i) ∧
    ∀ c, mv[j]? = some c → Permitted 500 (runFrom Md.init (ns ++ mv.take j)) c := by
  have hw := WF.run ns WF.init hok
  have e0 : ns ++ mv = (ns ++ mv.take j) ++ mv.drop j := by rw [List.append_assoc, List.take_append_drop]
  rw [e0, okFrom_append] at ho
  simp only [Bool.and_eq_true] at ho
  have ho1 := ho.1
  rw [okFrom_append, hok] at ho1
  simp only [Bool.true_and] at ho1
  refine ⟨ho.1, WF.run _ WF.init ho.1, ?_, fun c hc' => ?_⟩
  · obtain ⟨s', e1, m1, _⟩ := undo_all (M := runFrom Md.init ns) (mv.take j) (n := 0) (s := (runFrom Md.init ns).seq) hw hn ho1 hc
    rw [reseq_zero] at e1
    rw [runFrom_append, e1]
    intro k e he
    exact hn k e ((m1 k e).1 he)
  · obtain ⟨hj, e⟩ := List.getElem?_eq_some_iff.1 hc'
    have h2 := ho.2
    rw [List.drop_eq_getElem_cons hj, e] at h2
    simp only [okFrom, Bool.and_eq_true] at h2
    exact (permitted_iff _ _ _).1 h2.1
theorem known_in {m : Md} (h : WF m) (hn : ∀ k e, e ∈ m.seq k → ∃ i, m.fst e = some i) {l e k : Nat} (hk : m.fst e = some k) (he : e ∈ m.seq l) : idxZ (m.names (m.seq l)) k = ((m.seq l).idxOf e : Nat) := by
  have nm : ∀ x ∈ m.seq l, ∃ i, m.fst x = some i ∧ m.name (m.seq l) x = i := fun x hx => by
    obtain ⟨i, hi⟩ := hn l x hx
    exact ⟨i, hi, by unfold Md.name; rw [hi]; rfl⟩
  have hlt : (m.seq l).idxOf e < (m.seq l).length := List.idxOf_lt_length_iff.2 he
  have hget : (m.seq l)[(m.seq l).idxOf e]? = some e := by rw [List.getElem?_eq_getElem hlt, List.getElem_idxOf]
  refine idxZ_at ?_ (fun i hi q => ?_)
  · rw [Md.names, List.getElem?_map, hget]
    obtain ⟨i, h1, h2⟩ := nm e he
    rw [hk] at h1
    simp only [Option.map_some, h2]
    exact h1.symm
  · rw [Md.names, List.getElem?_map, Option.map_eq_some_iff] at q
    obtain ⟨x, hx, hxk⟩ := q
    obtain ⟨i', h1, h2⟩ := nm x (List.mem_of_getElem? hx)
    have : x = e := fst_inj h (h1.trans (by rw [← h2, hxk])) hk
    subst this
    have := idxOf_of_get (h.nodup l) hx
    omega
theorem known_out {m : Md} (hn : ∀ k e, e ∈ m.seq k → ∃ i, m.fst e = some i) (h : WF m) {l e k : Nat} (hk : m.fst e = some k) (he : e ∉ m.seq l) : idxZ (m.names (m.seq l)) k = -1 := by
  refine idxZ_not (fun i _ q => ?_)
  rw [Md.names, List.getElem?_map, Option.map_eq_some_iff] at q
  obtain ⟨x, hx, hxk⟩ := q
  obtain ⟨i', h1⟩ := hn l x (List.mem_of_getElem? hx)
  have h2 : m.name (m.seq l) x = i' := by unfold Md.name; rw [h1]; rfl
  have : x = e := fst_inj h (h1.trans (by rw [← h2, hxk])) hk
  subst this
  exact he (List.mem_of_getElem? hx)
/-- What a round knows. -/
structure UAt (w wr : World) (ns mv : List Cl) (M : Md) (j : Nat) (vl vu : Value) : Prop where
  scr : Scr wr vl (ns ++ mv.take j)
  undo : wr.ownsRow w.heap.size 29 8 vu (undosOf M (mv.take j)).length ((undosOf M (mv.take j)).flatMap Cl.cells)
  dis : ∀ b, vl.ownBlock = some b → ¬ vu.ownBlock = some b
  ops : ∀ c ∈ mv.take j, 7 ≤ c.op ∧ c.op ≤ 10
  below : Below w.heap.size w wr
theorem scr_block {w : World} {v : Value} {cs : List Cl} (h : Scr w v cs) (hne : cs ≠ []) : ∀ b, v.ownBlock = some b → b < w.heap.size := by
  obtain ⟨b, o, c, rfl, hc⟩ := h.sl.elem Cl.cells_length (by decide) hne
  obtain ⟨x, hx⟩ : ∃ x, cs[0]? = some x := ⟨_, List.getElem?_eq_getElem (List.length_pos_iff.2 hne)⟩
  have := World.block_lt_of_cell? w _ (hc 0 x hx 0 _ rfl)
  intro b' q
  simp only [Value.ownBlock, Option.some.injEq] at q
  subst q; exact this
/-- The undo is written down, or there is none; then the move is made. -/
theorem UAt.more {w wr w5 : World} {ns mv : List Cl} {M : Md} {j : Nat} {vl vu vu' : Value} {X : List Cl} {o : Obj} (h : UAt w wr ns mv M j vl vu) (hne : ns ++ mv.take j ≠ [])
    (hown : w5.ownsRow w.heap.size 29 8 vu' ((undosOf M (mv.take j)).length + X.length) ((undosOf M (mv.take j)).flatMap Cl.cells ++ X.flatMap Cl.cells)) (hg : (wr.alloc o).grownBy w5 vu.ownBlock) (hnn : ∀ k, vu'.ownBlock = some k → vu.ownBlock = some k ∨ (wr.alloc o).heap.size ≤ k) :
    Scr w5 vl (ns ++ mv.take j) ∧ w5.ownsRow w.heap.size 29 8 vu' (undosOf M (mv.take j) ++ X).length ((undosOf M (mv.take j) ++ X).flatMap Cl.cells) ∧ (∀ b, vl.ownBlock = some b → ¬ vu'.ownBlock = some b) ∧ Below w.heap.size w w5 := by
  have hk : Keeps (fun k => vu.ownBlock = some k) wr w5 := ((Keeps.refl _ wr).alloc o).grown hg (fun _ q _ => q)
  refine ⟨⟨h.scr.sl.keep hk h.dis, h.scr.fair, h.scr.ok⟩, by rw [List.length_append, List.flatMap_append]; exact hown, fun b q z => ?_, h.below.trans (hk.below (fun b hb _ z => by have := (h.undo.lt b z).1; omega) h.below.size)⟩
  rcases hnn b z with r | r
  · exact h.dis b q r
  · have := scr_block h.scr hne b q
    simp at r
    omega
theorem UAt.same {w wr : World} {ns mv : List Cl} {M : Md} {j : Nat} {vl vu : Value} (h : UAt w wr ns mv M j vl vu) (w5 : World) (hb : Below wr.heap.size wr w5) :
    Scr w5 vl (ns ++ mv.take j) ∧ w5.ownsRow w.heap.size 29 8 vu (undosOf M (mv.take j) ++ []).length ((undosOf M (mv.take j) ++ []).flatMap Cl.cells) ∧ (∀ b, vl.ownBlock = some b → ¬ vu.ownBlock = some b) ∧ Below w.heap.size w w5 := by
  rw [List.append_nil]
  exact ⟨h.scr.later hb, own_below h.undo hb, h.dis, h.below.trans (hb.mono h.below.size)⟩
theorem UAt.later {w wr w5 : World} {ns mv : List Cl} {M : Md} {j : Nat} {vl vu : Value} (h : UAt w wr ns mv M j vl vu) (hb : Below wr.heap.size wr w5) : UAt w w5 ns mv M j vl vu :=
  ⟨h.scr.later hb, own_below h.undo hb, h.dis, h.ops, h.below.trans (hb.mono h.below.size)⟩
theorem UAt.step {w w7 w8 : World} {ns mv X : List Cl} {M : Md} {j : Nat} {vu v' : Value} {c : Cl} {o : Obj} (h2 : w7.ownsRow w.heap.size 29 8 vu (undosOf M (mv.take j) ++ X).length ((undosOf M (mv.take j) ++ X).flatMap Cl.cells)) (h4 : Below w.heap.size w w7)
    (hT : mv.take (j + 1) = mv.take j ++ [c]) (hD : undosOf M (mv.take (j + 1)) = undosOf M (mv.take j) ++ X) (hO : ∀ x ∈ mv.take (j + 1), 7 ≤ x.op ∧ x.op ≤ 10) (hok : ∀ x ∈ (ns ++ mv.take j) ++ [c], x.v.ok)
    (hr : w8.ownsRow (w7.alloc o).heap.size 29 8 v' ((ns ++ mv.take j) ++ [c]).length (((ns ++ mv.take j) ++ [c]).flatMap Cl.cells)) (hb : Below (w7.alloc o).heap.size (w7.alloc o) w8) : UAt w w8 ns mv M (j + 1) v' vu := by
  have hb7 : Below w7.heap.size w7 w8 := (below1 w7 o).trans (hb.mono (by simp))
  refine ⟨?_, by rw [hD]; exact own_below h2 hb7, fun b q z => ?_, hO, h4.trans (hb7.mono h4.size)⟩
  · rw [hT, ← List.append_assoc]; exact Scr.of_own hr hok
  · have := (hr.lt b q).1
    have := (h2.lt b z).2
    simp at *
    omega
theorem box_grown {wr w7 w8 : World} {B : Nat} {e : TypeId} {sz n : Nat} {vu : Value} {xs : List Value} {o ob : Obj} (h : wr.ownsRow B e sz vu n xs) (G : w7.heap[wr.heap.size]? = some ob) (hg : (w7.alloc o).grownBy w8 vu.ownBlock) : w8.heap[wr.heap.size]? = some ob := by
  have hlt := (Array.getElem?_eq_some_iff.1 G).1
  have hk : Keeps (fun k => vu.ownBlock = some k) w7 w8 := ((Keeps.refl _ w7).alloc o).grown hg (fun _ q _ => q)
  exact (hk.block _ hlt (fun q => by have := (h.lt _ q).2; omega)).trans G
theorem undos_len : ∀ (mv : List Cl) (m : Md), (undosOf m mv).length ≤ mv.length
  | [], _ => Nat.le_refl _
  | c :: cs, m => by
    have := undos_len cs (m.step c).1
    rcases undoOf_short m c with q | ⟨x, q⟩ <;> simp only [undosOf, q, List.length_append, List.length_cons, List.length_nil] <;> omega
theorem undos_ok : ∀ (mv : List Cl) (m : Md), ∀ c ∈ undosOf m mv, c.v.ok
  | [], _, c, h => by simp [undosOf] at h
  | d :: cs, m, c, h => by
    simp only [undosOf, List.mem_append] at h
    rcases h with h | h
    · unfold undoOf at h
      split at h
      · simp at h
      · split at h
        · split at h
          · simp at h; subst h; exact vl_zero_ok
          · simp at h; subst h; exact vl_zero_ok
        · simp at h
    · exact undos_ok cs _ c h

set_option maxHeartbeats 16000000 in
theorem undone_c {w : World} {v v2 : Value} {cs mv : List Cl} (s : Scr w v cs) (s2 : Scr w v2 mv) (hn : cs.length + mv.length ≤ 1048576) :
    Calls Try.prog 3 #[v, v2] w fun r w' => r = .returned (.bool true) ∧ Below w.heap.size w w' := by
  have PM := Lib.hid (permittedL_c s.sl (by omega))
  have S := Lib.hid s; have T := Lib.hid s2
  obtain ⟨z1, z2, rfl⟩ := s2.form
  clear s s2
  go_enter Try.func3, Try.ntmps3
  go_wp2_with fail
  refine PM.out.mono ?_
  rintro r w1 ⟨rfl, hb1⟩
  have B1 := Lib.hid hb1
  clear hb1 PM
  cases hok : okFrom 500 Md.init cs with
  | false =>
    clear hok
    go_wp2
    go_ret
    exact ⟨rfl, B1.out⟩
  | true =>
    have NM := Lib.hid (named_c (S.out.later B1.out) hok (by omega))
    obtain ⟨n1, n2, n3, n4⟩ := named_all hok (by omega)
    have N1 := Lib.hid n1; have N2 := Lib.hid n2; have N3 := Lib.hid n3
    clear hok n1 n2 n3
    go_wp2_with fail
    refine NM.out.mono ?_
    rintro r w2 ⟨vs, rfl, s2, hb2⟩
    have B2 := Lib.hid (B1.out.trans (hb2.mono B1.out.size))
    generalize hns : namedC cs = ns at *
    have TH := Lib.hid (then_c s2.sl (T.out.later B2.out).sl s2.fair T.out.fair (by omega))
    have S2 := Lib.hid s2; have T2 := Lib.hid (T.out.later B2.out)
    clear hns s2 hb2 NM
    go_wp2_with fail
    refine TH.out.mono ?_
    rintro r w3 ⟨vt, rfl, r3, hb3⟩
    have B3 := Lib.hid (B2.out.trans (hb3.mono B2.out.size))
    have S3 := Lib.hid (S2.out.later hb3); have T3 := Lib.hid (T2.out.later hb3)
    have PM := Lib.hid (permittedL_c (Sl.of_own r3) (by rw [List.length_append]; omega))
    clear r3 hb3 TH
    go_wp2_with fail
    refine PM.out.mono ?_
    rintro r w4 ⟨rfl, hb4⟩
    have B4 := Lib.hid (B3.out.trans (hb4.mono B3.out.size))
    have S4 := Lib.hid (S3.out.later hb4); have T4 := Lib.hid (T3.out.later hb4)
    clear hb4 PM
    cases hok2 : okFrom 500 Md.init (ns ++ mv) with
    | false =>
      clear hok2
      go_wp2
      go_ret
      exact ⟨rfl, B4.out⟩
    | true =>
      have OK2 := Lib.hid hok2
      clear hok2
      have U0 : Hid (UAt w4 w4 ns mv (runFrom Md.init ns) 0 vs (.slice none 0 0)) := ⟨by simpa using S4.out, World.ownsRow_nil _ _ _ _, fun b q z => by simp [Value.ownBlock] at z, by simp, Below.refl _ _⟩
      go_wp2_with fail
      go_loopg [6, 7, 26] mv.length (fun n vl vu k wr => ∃ j, j + n = mv.length ∧ k = .int .i64 j ∧ UAt w4 wr ns mv (runFrom Md.init ns) j vl vu)
      case atStart => exact ⟨0, by omega, rfl, U0.out⟩
      case round =>
        clear U0
        obtain ⟨j, hj, rfl, hU⟩ := hrel
        by_cases hk0 : gk = 0
        · subst hk0
          obtain rfl : j = mv.length := by omega
          have hops := hU.ops
          have hscr := hU.scr
          have hun := hU.undo
          rw [List.take_length] at hops hscr hun
          have LAW := Lib.hid (undone_law N1.out N3.out OK2.out hops)
          have hul : (undosOf (runFrom Md.init ns) mv).length ≤ mv.length := undos_len _ _
          have RV := Lib.hid (reverseCall_c hun rfl (by omega))
          have HUN := Lib.hid hun; have HSC := Lib.hid hscr; have DIS := Lib.hid hU.dis; have HB := Lib.hid hU.below
          obtain ⟨t3, t4, rfl⟩ := own_len hun
          clear hU hj hops hscr hun
          go_wp2_with fail
          refine RV.out.mono ?_
          rintro r w5 ⟨rfl, o5, hk5⟩
          have B45 : Below w4.heap.size w4 w5 := HB.out.trans (hk5.below (fun b hb _ z => by have := (HUN.out.lt b z).1; omega) HB.out.size)
          have B5 := Lib.hid (B4.out.trans (B45.mono B4.out.size))
          have S5 := Lib.hid (S4.out.later B45)
          have L5 : Scr w5 u6 (ns ++ mv) := ⟨HSC.out.sl.keep hk5 DIS.out, HSC.out.fair, HSC.out.ok⟩
          have UO : ∀ c ∈ (undosOf (runFrom Md.init ns) mv).reverse, c.v.ok := fun c hc => undos_ok _ _ c (List.mem_reverse.1 hc)
          have SU : Scr w5 (.slice t3 (undosOf (runFrom Md.init ns) mv).length t4) (undosOf (runFrom Md.init ns) mv).reverse := Scr.of_own (B := w4.heap.size) (by rw [List.length_reverse]; exact o5) UO
          have TH := Lib.hid (then_c L5.sl SU.sl L5.fair SU.fair (by rw [List.length_append, List.length_reverse]; omega))
          have OKS : Hid (∀ c ∈ (ns ++ mv) ++ (undosOf (runFrom Md.init ns) mv).reverse, c.v.ok) := fun c hc => by
            rcases List.mem_append.1 hc with q | q
            · exact HSC.out.ok c q
            · exact UO c q
          generalize hUL : (undosOf (runFrom Md.init ns) mv).length = UL at *
          have HUL := Lib.hid hUL
          clear o5 hk5 B45 L5 UO SU RV HUN HSC DIS HB hUL
          go_wp2_with fail
          refine TH.out.mono ?_
          rintro r w6 ⟨v6, rfl, r6, hb6⟩
          have S6 := S5.out.later hb6
          have AL := Lib.hid (alike_c S6 (Scr.of_own r6 OKS.out) S6 LAW.out.1 N1.out (fun k hk => by rw [List.append_assoc, runFrom_append]; exact run_isL_mono _ (mem_lists k hk)) (fun k hk => mem_lists k hk) (fun k _ => LAW.out.2 k) (by decide) (by omega) (by rw [List.length_append, List.length_append, List.length_reverse, HUL.out]; omega) (by omega))
          have B6 := Lib.hid (B5.out.trans (hb6.mono B5.out.size))
          clear r6 hb6 S6 TH
          go_wp2_with fail
          refine AL.out.mono ?_
          rintro r w7 ⟨rfl, hb7⟩
          have B7 := Lib.hid (B6.out.trans (hb7.mono B6.out.size))
          clear hb7 AL
          go_wp2
          go_ret
          exact ⟨rfl, B7.out⟩
        · have hjl : j < mv.length := by omega
          obtain ⟨c, hget⟩ : ∃ c, mv[j]? = some c := ⟨_, List.getElem?_eq_getElem hjl⟩
          have hne : mv ≠ [] := by intro q; subst q; simp at hjl
          obtain ⟨b, off, cp, hv, hcell⟩ := T4.out.sl.elem Cl.cells_length (by decide) hne
          simp only [Value.slice.injEq] at hv
          obtain ⟨rfl, _, rfl⟩ := hv
          have hbw : b < w4.heap.size := World.block_lt_of_cell? w4 ⟨b, off + (j * 8 + 0), none⟩ (hcell j c hget 0 _ rfl)
          have cc : ∀ t y, c.cells[t]? = some y → wr.cell? ⟨b, off + j * 8 + t, none⟩ = some y := fun t y hy => by
            rw [hU.below.cell (p := ⟨b, off + j * 8 + t, none⟩) hbw, Nat.add_assoc]; exact hcell j c hget t y hy
          have e0 := cc 0 _ rfl; have e1 := cc 1 _ rfl; have e2 := cc 2 _ rfl; have e3 := cc 3 _ rfl; have e4 := cc 4 _ rfl; have e5 := cc 5 _ rfl; have e6 := cc 6 _ rfl; have e7 := cc 7 _ rfl
          simp only [Nat.add_zero] at e0
          have FB := Lib.hid (fun o => B4.out.trans ((hU.below.alloc hU.below.size o).mono B4.out.size))
          by_cases h7 : c.op < 7
          · clear hU hget hj cc hcell hne
            generalize c.op = op at *
            go_wp2
            go_ret
            exact ⟨rfl, FB.out _⟩
          by_cases h10 : 10 < c.op
          · clear hU hget hj cc hcell hne
            generalize c.op = op at *
            go_wp2
            go_ret
            exact ⟨rfl, FB.out _⟩
          obtain ⟨k1, k2, k3, k4⟩ := undo_state N1.out N3.out OK2.out hU.ops
          have hp := k4 c hget
          obtain ⟨hl0, hl1, hl2⟩ := hp.list (by omega) (by omega)
          obtain ⟨hi0, hi1, e, he⟩ := hp.elem (by omega)
          obtain ⟨l, hl⟩ : ∃ l : Nat, c.list = (l : Nat) := ⟨c.list.toNat, by omega⟩
          obtain ⟨i, hi⟩ : ∃ i : Nat, c.elem = (i : Nat) := ⟨c.elem.toNat, by omega⟩
          rw [hl] at e1 hl2
          rw [hi] at e3 he
          rw [Int.toNat_natCast] at hl2 he
          have hlen0 : (ns ++ mv.take j).length ≤ 601048576 := by rw [List.length_append, List.length_take]; omega
          have hpos : ns ++ mv.take j ≠ [] := by
            intro q
            have := k2.isl l hl2
            rw [run_init_len, q] at this; simp at this
          have hid : onL l (cMv 7 i 0) = onL l (cMv 7 i 0) := rfl
          have hops' : ∀ x ∈ mv.take (j + 1), 7 ≤ x.op ∧ x.op ≤ 10 := fun x hx => by
            obtain ⟨hj', e'⟩ := List.getElem?_eq_some_iff.1 hget
            rw [List.take_succ_eq_append_getElem hj', e'] at hx
            rcases List.mem_append.1 hx with q | q
            · exact hU.ops x q
            · simp at q; subst q; omega
          have htake : mv.take (j + 1) = mv.take j ++ [c] := by
            obtain ⟨hj', e'⟩ := List.getElem?_eq_some_iff.1 hget
            rw [List.take_succ_eq_append_getElem hj', e']
          have hund : undosOf (runFrom Md.init ns) (mv.take (j + 1)) = undosOf (runFrom Md.init ns) (mv.take j) ++ undoOf (runFrom Md.init (ns ++ mv.take j)) c := by rw [htake, undosOf_snoc, runFrom_append]
          have LS := Lib.hid (fun o => listed_c (hU.scr.later (below1 wr o)) k1 hl2 (by omega))
          have hcok := T4.out.ok c (List.mem_of_getElem? hget)
          have HU := Lib.hid hU; have HJ := Lib.hid hj; have K1 := Lib.hid k1; have K2 := Lib.hid k2; have K3 := Lib.hid k3; have HE := Lib.hid he; have HT := Lib.hid htake; have HD := Lib.hid hund; have HO := Lib.hid hops'; have HPO := Lib.hid hpos; have HCO := Lib.hid hcok
          have HLI := Lib.hid (And.intro hl hi)
          have q7 : decide (c.op < 7) = false := by simp; omega
          have q10 : decide (10 < c.op) = false := by simp; omega
          have hul : (undosOf (runFrom Md.init ns) (mv.take j)).length ≤ mv.length := Nat.le_trans (undos_len _ _) (by rw [List.length_take]; omega)
          have hscf := hU.scr.form
          generalize hLL : (ns ++ mv.take j).length = LL at *
          have HLL := Lib.hid hLL
          obtain ⟨f1, f2, rfl⟩ := hscf
          clear hU hj hget cc hcell hne k1 k2 k3 k4 hp he hl2 hl0 hl1 hi0 hi1 htake hund hops' hpos hid hcok hl hi hLL
          go_wp2_with fail
          refine (LS.out _).mono ?_
          rintro r w5 ⟨v2, v3, rfl, _, o5, hb5⟩
          have G5 := Lib.hid (heap_later (heap_alloc_new wr (.cells #[.int .i64 c.op, .int .i64 (l : Nat), .int .i64 c.other, .int .i64 (i : Nat), .int .i64 c.mark, .int .i64 c.v.kind, .int .i64 c.v.n, .string c.v.s] 29)) hb5)
          have hb05 := (below1 wr _).trans (hb5.mono (by simp))
          have U5 := Lib.hid (HU.out.later hb05)
          have N5 : Hid (Nats w5 v3 ((runFrom Md.init (ns ++ mv.take j)).names ((runFrom Md.init (ns ++ mv.take j)).seq l))) := Nats.of_own (by rw [names_length]; exact o5)
          have KN := Lib.hid (known_c U5.out.scr K1.out HE.out (by rw [HLL.out]; omega))
          have c3 := cell_of_heap (o := 3) G5.out rfl
          have hsl : ((runFrom Md.init (ns ++ mv.take j)).seq l).length ≤ 500 := by
            have := K2.out.seq_le l
            have := run_cnt_le _ K1.out (by simp [Md.init])
            omega
          obtain ⟨na, nc, rfl⟩ := own_len o5
          clear hb5 o5 LS hb05 e0 e1 e2 e3 e4 e5 e6 e7
          go_wp2_with fail
          refine KN.out.mono ?_
          rintro r w6 ⟨k, rfl, hk, hb6⟩
          have G6 := Lib.hid (heap_later G5.out hb6)
          have U6 := Lib.hid (U5.out.later hb6)
          have N6 := Lib.hid (N5.out.later hb6)
          have IX := Lib.hid (index_c k N6.out (by rw [names_length]; omega))
          have HK := Lib.hid hk
          clear hb6 KN c3 hk G5 U5 N5
          go_wp2_with fail
          refine IX.out.mono ?_
          rintro r w7 ⟨rfl, rfl⟩
          clear IX
          have d0 := cell_of_heap (o := 0) G6.out rfl
          have d1 := cell_of_heap (o := 1) G6.out rfl
          have d2 := cell_of_heap (o := 2) G6.out rfl
          have d3 := cell_of_heap (o := 3) G6.out rfl
          have d4 := cell_of_heap (o := 4) G6.out rfl
          have d5 := cell_of_heap (o := 5) G6.out rfl
          have d6 := cell_of_heap (o := 6) G6.out rfl
          have d7 := cell_of_heap (o := 7) G6.out rfl
          have hcc : c = ⟨c.op, (l : Nat), c.other, (i : Nat), c.mark, c.v⟩ := by
            cases c
            simp only [Cl.mk.injEq, true_and, and_true]
            exact ⟨HLI.out.1, HLI.out.2⟩
          have HCC := Lib.hid hcc
          have OKC : Hid (∀ x ∈ (ns ++ mv.take j) ++ [c], x.v.ok) := fun x hx => by
            rcases List.mem_append.1 hx with q | q
            · exact HU.out.scr.ok x q
            · simp at q; subst q; exact HCO.out
          have lw7 : w4.heap.size ≤ w7.heap.size := U6.out.below.size
          by_cases hin : e ∈ (runFrom Md.init (ns ++ mv.take j)).seq l
          · have hz := known_in K2.out K3.out HK.out hin
            by_cases h0 : ((runFrom Md.init (ns ++ mv.take j)).seq l).idxOf e = 0
            · have hX : undoOf (runFrom Md.init (ns ++ mv.take j)) c = [onL l (cMv 7 i 0)] := by
                unfold undoOf
                rw [HLI.out.1, HLI.out.2, Int.toNat_natCast, Int.toNat_natCast, HE.out]
                simp only [if_pos hin, if_pos h0]
              rw [h0] at hz
              have HX := Lib.hid hX
              rw [hz]
              clear hz hin h0 hX hcc
              go_wp2_with (at_builtin; refine wpList_app2 rfl (.tmp 54) (.tmp 60) 22 rfl w4.heap.size 29 _ 8 72 Try.underlying22 Try.infoICall rfl (by decide) _ _ _ rfl (U6.out.undo.alloc _) _ 1 (onL l (cMv 7 i 0)).cells rfl (sl_at' _ _ _ _ _ _ (by simp)) rfl (by simp [Cl.cells, Value.oneCell']) (.inr (.inr (by decide))) (by omega) (by decide) (by simp; omega) ?_; intro vu' w8 hown hg hnn; have M8 := Lib.hid (U6.out.more (X := [onL l (cMv 7 i 0)]) HPO.out (by simpa using hown) hg hnn); have G8 := Lib.hid (box_grown HU.out.undo G6.out hg); have f0 := cell_of_heap (o := 0) G8.out rfl; have f1 := cell_of_heap (o := 1) G8.out rfl; have f2 := cell_of_heap (o := 2) G8.out rfl; have f3 := cell_of_heap (o := 3) G8.out rfl; have f4 := cell_of_heap (o := 4) G8.out rfl; have f5 := cell_of_heap (o := 5) G8.out rfl; have f6 := cell_of_heap (o := 6) G8.out rfl; have f7 := cell_of_heap (o := 7) G8.out rfl; clear hown hg hnn)
              refine (then_c (b := [⟨c.op, (l : Nat), c.other, (i : Nat), c.mark, c.v⟩]) (M8.out.1.later (below1 w8 _)).sl (scr_lit w8 [⟨c.op, (l : Nat), c.other, (i : Nat), c.mark, c.v⟩] 29 w8.heap.size 1 rfl rfl (by simpa using HCO.out)).sl M8.out.1.fair (fun n c q => by injection q with q1; cases q1) (by rw [HLL.out]; simp; omega)).mono ?_
              rintro r w9 ⟨v9, rfl, r9, hb9⟩
              rw [← HCC.out] at r9 hb9
              have HD' : undosOf (runFrom Md.init ns) (mv.take (j + 1)) = undosOf (runFrom Md.init ns) (mv.take j) ++ [onL l (cMv 7 i 0)] := by rw [HD.out, HX.out]
              have N9 := Lib.hid (UAt.step (X := [onL l (cMv 7 i 0)]) M8.out.2.1 M8.out.2.2.2 HT.out HD' HO.out OKC.out r9 hb9)
              clear r9 hb9 HD'
              go_wp2
              go_roundg (gk - 1)
              case measure => omega
              case rel => exact ⟨j + 1, by have := HJ.out; omega, by go_num, N9.out⟩
            · obtain ⟨a, ha⟩ : ∃ a, ((runFrom Md.init (ns ++ mv.take j)).seq l).idxOf e = a := ⟨_, rfl⟩
              have hal : a < ((runFrom Md.init (ns ++ mv.take j)).seq l).length := by rw [← ha]; exact List.idxOf_lt_length_iff.2 hin
              obtain ⟨nm, hnm⟩ : ∃ x, ((runFrom Md.init (ns ++ mv.take j)).names ((runFrom Md.init (ns ++ mv.take j)).seq l))[a - 1]? = some x := ⟨_, List.getElem?_eq_getElem (by rw [names_length]; omega)⟩
              have hX : undoOf (runFrom Md.init (ns ++ mv.take j)) c = [onL l (cMv 10 i nm)] := by
                unfold undoOf
                rw [HLI.out.1, HLI.out.2, Int.toNat_natCast, Int.toNat_natCast, HE.out]
                simp only [if_pos hin, if_neg h0]
                rw [ha, List.getD_eq_getElem?_getD, hnm]; rfl
              rw [ha] at hz h0
              have HX := Lib.hid hX
              rw [hz]
              obtain ⟨nb, no, np, hnv, hncell⟩ := N6.out.cells (by intro q; rw [q] at hnm; simp at hnm)
              rw [names_length] at hnv
              simp only [Value.slice.injEq] at hnv
              obtain ⟨rfl, _, rfl⟩ := hnv
              have en := hncell (a - 1) nm hnm
              generalize hSL : ((runFrom Md.init (ns ++ mv.take j)).seq l).length = SL at *
              have qa0 : ((a : Int) == 0) = false := by
                have : ¬ ((a : Int) = 0) := by omega
                simpa using this
              have qa1 : decide ((0 : Int) < (a : Int)) = true := by simp; omega
              have qa2 : decide (0 < a) = true := by simp; omega
              have wq1 : IntKind.i64.wrap ((a : Int) - 1) = (a : Int) - 1 := by rw [IntKind.wrap_i64]; omega
              have wn1 : ((a : Int) - 1).toNat = a - 1 := by omega
              have w01 : 0 ≤ (a : Int) - 1 := by omega
              have tN1 : a - 1 < SL := by omega
              have k1' : 1 ≤ (a : Int) := by omega
              have k2' : (a : Int) - 1 < (SL : Int) := by omega
              have a0p : 0 < a := by omega
              clear hz hin hX hcc hncell hnm ha hSL
              go_wp2_with fail
              refine wp_region_T (fun X => X.cell? ⟨wr.heap.size, 1, none⟩ = some (.int .i64 (l : Nat)) ∧ X.cell? ⟨wr.heap.size, 3, none⟩ = some (.int .i64 (i : Nat)) ∧ X.cell? ⟨nb, no + (a - 1), none⟩ = some (.int .i64 (nm : Nat))) [] [11, 12] run_mixed ?_
              simp only [List.size_toArray, List.length_cons, List.length_nil]
              have hdr : Below w7.heap.size w7 w7.drew := (Below.refl _ w7).drew
              have HS : (fun X : World => X.cell? ⟨wr.heap.size, 1, none⟩ = some (.int .i64 (l : Nat)) ∧ X.cell? ⟨wr.heap.size, 3, none⟩ = some (.int .i64 (i : Nat)) ∧ X.cell? ⟨nb, no + (a - 1), none⟩ = some (.int .i64 (nm : Nat))) w7.drew := ⟨d1, d3, en⟩
              have U7 := Lib.hid (U6.out.later hdr)
              have G7 := Lib.hid (heap_later G6.out hdr)
              have lw8 : w4.heap.size ≤ w7.drew.heap.size := lw7
              generalize w7.drew = w70 at *
              refine wpT_takeG (i := 0) (v := ?va0) rfl (by kernel_rfl) (fun _ _ _ h => h) rfl ?ya0 ?ra0
              case ya0 => ((intro wz; go_simp); try with_reducible rfl)
              try simp only [Act.put, List.setIfInBounds_toArray, List.set_cons_zero, List.set_cons_succ]
              refine wpT_takeG (i := 1) (v := ?va1) rfl (by kernel_rfl) (fun _ _ _ h => h) rfl ?ya1 ?ra1
              case ya1 => ((intro wz; go_simp); try with_reducible rfl)
              try simp only [Act.put, List.setIfInBounds_toArray, List.set_cons_zero, List.set_cons_succ]
              refine wpT_loadG (i := 2) (v := ?va2) rfl (by kernel_rfl) (fun _ _ _ h => h) rfl ?ya2 HS ?ra2
              case ya2 => ((intro wz hSw; (try dsimp only at hSw); go_split_ands; go_simp); try with_reducible rfl)
              try simp only [Act.put, List.setIfInBounds_toArray, List.set_cons_zero, List.set_cons_succ]
              refine wpT_takeG (i := 3) (v := ?va3) rfl (by kernel_rfl) (fun _ _ _ h => h) rfl ?ya3 ?ra3
              case ya3 => ((intro wz; go_simp); try with_reducible rfl)
              try simp only [Act.put, List.setIfInBounds_toArray, List.set_cons_zero, List.set_cons_succ]
              refine wpT_loadG (i := 4) (v := ?va4) rfl (by kernel_rfl) (fun _ _ _ h => h) rfl ?ya4 HS ?ra4
              case ya4 => ((intro wz hSw; (try dsimp only at hSw); go_split_ands; go_simp); try with_reducible rfl)
              try simp only [Act.put, List.setIfInBounds_toArray, List.set_cons_zero, List.set_cons_succ]
              refine wpT_takeG (i := 5) (v := ?va5) rfl (by kernel_rfl) (fun _ _ _ h => h) rfl ?ya5 ?ra5
              case ya5 => ((intro wz; go_simp); try with_reducible rfl)
              try simp only [Act.put, List.setIfInBounds_toArray, List.set_cons_zero, List.set_cons_succ]
              refine wpT_takeG (i := 6) (v := ?va6) rfl (by kernel_rfl) (fun _ _ _ h => h) rfl ?ya6 ?ra6
              case ya6 => ((intro wz; go_simp); try with_reducible rfl)
              try simp only [Act.put, List.setIfInBounds_toArray, List.set_cons_zero, List.set_cons_succ]
              refine wpT_takeG (i := 7) (v := ?va7) rfl (by kernel_rfl) (fun _ _ _ h => h) rfl ?ya7 ?ra7
              case ya7 => ((intro wz; go_simp); try with_reducible rfl)
              try simp only [Act.put, List.setIfInBounds_toArray, List.set_cons_zero, List.set_cons_succ]
              refine wpT_takeG (i := 8) (v := ?va8) rfl (by kernel_rfl) (fun _ _ _ h => h) rfl ?ya8 ?ra8
              case ya8 => ((intro wz; go_simp); try with_reducible rfl)
              try simp only [Act.put, List.setIfInBounds_toArray, List.set_cons_zero, List.set_cons_succ]
              refine wpT_loadG (i := 9) (v := ?va9) rfl (by kernel_rfl) (fun _ _ _ h => h) rfl ?ya9 HS ?ra9
              case ya9 => ((intro wz hSw; (try dsimp only at hSw); go_split_ands; go_simp); try with_reducible rfl)
              try simp only [Act.put, List.setIfInBounds_toArray, List.set_cons_zero, List.set_cons_succ]
              refine wpT_takeG (i := 10) (v := ?va10) rfl (by kernel_rfl) (fun _ _ _ h => h) rfl ?ya10 ?ra10
              case ya10 => ((intro wz; go_simp); try with_reducible rfl)
              try simp only [Act.put, List.setIfInBounds_toArray, List.set_cons_zero, List.set_cons_succ]
              refine wpT_runG (i := 11) (by kernel_rfl) rfl rfl ?_
              go_simp
              refine ⟨trivial, ?_⟩
              refine wpT_runG (i := 12) (by kernel_rfl) rfl rfl ?_
              refine wp_app2 (.tmp 65) (.tmp 76) 22 rfl w4.heap.size 29 _ 8 72 Try.underlying22 Try.infoICall rfl (by decide) u7 _ _ rfl (U7.out.undo.alloc _) _ 1 (onL l (cMv 10 i nm)).cells rfl (sl_at' _ _ _ _ _ _ rfl) rfl (by simp [Cl.cells, Value.oneCell']) (.inr (.inr (by decide))) (by omega) (by decide) (by simp; omega) ?_
              intro vu' w8 hown hg hnn
              have M8 := Lib.hid (U7.out.more (X := [onL l (cMv 10 i nm)]) HPO.out (by simpa using hown) hg hnn)
              have G8 := Lib.hid (box_grown HU.out.undo G7.out hg)
              have f0 := cell_of_heap (o := 0) G8.out rfl; have f1 := cell_of_heap (o := 1) G8.out rfl; have f2 := cell_of_heap (o := 2) G8.out rfl; have f3 := cell_of_heap (o := 3) G8.out rfl; have f4 := cell_of_heap (o := 4) G8.out rfl; have f5 := cell_of_heap (o := 5) G8.out rfl; have f6 := cell_of_heap (o := 6) G8.out rfl; have f7 := cell_of_heap (o := 7) G8.out rfl
              clear hown hg hnn HS hdr
              refine ⟨trivial, ?_⟩
              simp only [Act.put, List.setIfInBounds_toArray, List.set_cons_zero, List.set_cons_succ]
              refine wpT_takeG (i := 13) (v := ?vb13) rfl (by kernel_rfl) (fun _ _ _ h => h) rfl ?yb13 ?rb13
              case yb13 => ((intro wz; go_simp); try with_reducible rfl)
              try simp only [Act.put, List.setIfInBounds_toArray, List.set_cons_zero, List.set_cons_succ]
              refine wpT_done (by kernel_rfl) ?_ _
              go_wp2_with fail
              refine (then_c (b := [⟨c.op, (l : Nat), c.other, (i : Nat), c.mark, c.v⟩]) (M8.out.1.later (below1 w8 _)).sl (scr_lit w8 [⟨c.op, (l : Nat), c.other, (i : Nat), c.mark, c.v⟩] 29 w8.heap.size 1 rfl rfl (by simpa using HCO.out)).sl M8.out.1.fair (fun n c q => by injection q with q1; cases q1) (by rw [HLL.out]; simp; omega)).mono ?_
              rintro r w9 ⟨v9, rfl, r9, hb9⟩
              rw [← HCC.out] at r9 hb9
              have HD' : undosOf (runFrom Md.init ns) (mv.take (j + 1)) = undosOf (runFrom Md.init ns) (mv.take j) ++ [onL l (cMv 10 i nm)] := by rw [HD.out, HX.out]
              have N9 := Lib.hid (UAt.step (X := [onL l (cMv 10 i nm)]) M8.out.2.1 M8.out.2.2.2 HT.out HD' HO.out OKC.out r9 hb9)
              clear r9 hb9 HD'
              go_wp2
              go_roundg (gk - 1)
              case measure => omega
              case rel => exact ⟨j + 1, by have := HJ.out; omega, by go_num, N9.out⟩
          · have hz := known_out K3.out K2.out HK.out hin
            have hX : undoOf (runFrom Md.init (ns ++ mv.take j)) c = [] := by
              unfold undoOf
              rw [HLI.out.1, HLI.out.2, Int.toNat_natCast, Int.toNat_natCast, HE.out]
              simp only [if_neg hin]
            have HX := Lib.hid hX
            rw [hz]
            clear hz hin hX hcc
            go_wp2_with fail
            refine (then_c (b := [⟨c.op, (l : Nat), c.other, (i : Nat), c.mark, c.v⟩]) (U6.out.scr.later (below1 w7 _)).sl (scr_lit w7 [⟨c.op, (l : Nat), c.other, (i : Nat), c.mark, c.v⟩] 29 w7.heap.size 1 rfl rfl (by simpa using HCO.out)).sl U6.out.scr.fair (fun n c q => by injection q with q1; cases q1) (by rw [HLL.out]; simp; omega)).mono ?_
            rintro r w9 ⟨v9, rfl, r9, hb9⟩
            rw [← HCC.out] at r9 hb9
            have HD' : undosOf (runFrom Md.init ns) (mv.take (j + 1)) = undosOf (runFrom Md.init ns) (mv.take j) ++ [] := by rw [HD.out, HX.out]
            have N9 := Lib.hid (UAt.step (X := []) (by rw [List.append_nil]; exact U6.out.undo) U6.out.below HT.out HD' HO.out OKC.out r9 hb9)
            clear r9 hb9 HD'
            go_wp2
            go_roundg (gk - 1)
            case measure => omega
            case rel => exact ⟨j + 1, by have := HJ.out; omega, by go_num, N9.out⟩
end Bead
end Go.Proofs.Ytbpbbmamgajimaa
