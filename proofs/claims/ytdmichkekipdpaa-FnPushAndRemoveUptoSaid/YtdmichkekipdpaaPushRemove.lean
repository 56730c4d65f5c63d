/- FnPushAndRemove returns true. -/
import Derived.Test.YtdmichkekipdpaaScene2
import Derived.Test.YtdmichkekipdpaaMoves
import Derived.Test.YtdmichkekipdpaaKeepsValues
import Derived.Test.YtdmichkekipdpaaLast4
import Derived.Test.YtdmichkekipdpaaShelf
set_option linter.all false
namespace Go.Proofs.Ytdmichkekipdpaa
open Go.RowKit
namespace Bead
set_option maxRecDepth 100000

/-- A call that inserts v. -/
def InsCall (M : Md) (l : Nat) (v : Vl) (c : Cl) : Prop := ∃ (op : Int) (j x : Nat), c = cIns (op - 4) j v ∧ (op = 7 ∨ op = 8 ∨ op = 9 ∨ op = 10) ∧ (op = 9 ∨ op = 10 → M.ret j = some x ∧ x ∈ M.seq l)
theorem inscall_law {ns : List Cl} {l : Nat} (h : Scened ns l) {v : Vl} {c : Cl} (hc : InsCall (runFrom Md.init ns) l v c) :
    okFrom 501 Md.init (ns ++ [c, cGet ns.length, cMv 11 ns.length 0].map (onL l)) = true ∧ (∀ k, Look k (runFrom Md.init (ns ++ [c, cGet ns.length, cMv 11 ns.length 0].map (onL l))) (runFrom Md.init ns)) ∧
    ∃ a, ansFrom (runFrom Md.init ns) ([c, cGet ns.length, cMv 11 ns.length 0].map (onL l)) = [a, ⟨-1, 0, canon v⟩, ⟨-1, 0, canon v⟩] := by
  obtain ⟨op, j, x, rfl, hop, hx⟩ := hc
  exact pushed_law h hop hx _ rfl
/-- What all rounds know. -/
structure PRAt (w wr : World) (g0 g1 : Nat) (v : Vl) (ns CL : List Cl) (l : Nat) (vs ve vc : Value) : Prop where
  val : wr.heap[g0]? = some (.cells #[.int .i64 v.kind, .int .i64 v.n, .string v.s] 27 (0, 0))
  box : wr.heap[g1]? = some (.cells #[vs, .int .i64 (l : Nat), ve] 34 (0, 0))
  scr : Scr wr vs ns
  calls : Scr wr vc CL
  below : Below w.heap.size w wr
theorem PRAt.later {w wr w2 : World} {g0 g1 l : Nat} {v : Vl} {ns CL : List Cl} {vs ve vc : Value} (h : PRAt w wr g0 g1 v ns CL l vs ve vc) (hb : Below wr.heap.size wr w2) : PRAt w w2 g0 g1 v ns CL l vs ve vc :=
  ⟨heap_later h.val hb, heap_later h.box hb, h.scr.later hb, h.calls.later hb, h.below.trans (hb.mono h.below.size)⟩

theorem grown1b {w w2 : World} {o : Obj} {row : Option Nat} (hg : (w.alloc o).grownBy w2 row) : Keeps (fun k => row = some k) w w2 := ((Keeps.refl _ w).alloc o).grown hg (fun _ q _ => q)
theorem pr_more {w w1 wq wn : World} {u : Vl} {ns A B : List Cl} {l : Nat} {vs ve vc : Value} {o : Obj} (P0 : PRAt w wq w.heap.size w1.heap.size u ns A l vs ve (.slice (some ⟨w1.heap.size + 1, 0, none⟩) 2 2)) (hL : ∀ c ∈ A ++ B, InsCall (runFrom Md.init ns) l u c) (hu : u.ok) (S1 : Scr w1 vs ns) (BQ : Below w1.heap.size w1 wq) (zq : w1.heap.size + 1 < wq.heap.size) (z01 : w.heap.size < w1.heap.size + 1) (hw : w.heap.size ≤ w1.heap.size) (hne : A ++ B ≠ []) (hlen : (A ++ B).length = 2 + 2)
    (hown : wn.ownsRow (w1.heap.size + 1) 29 8 vc (2 + 2) (A.flatMap Cl.cells ++ B.flatMap Cl.cells)) (hg : (wq.alloc o).grownBy wn (some (w1.heap.size + 1))) :
    ∃ (cb co cp K : Nat) (CL : List Cl), vc = .slice (some ⟨cb, co, none⟩) K cp ∧ K ≤ 4 ∧ CL.length = K ∧ (∀ c ∈ CL, InsCall (runFrom Md.init ns) l u c) ∧ PRAt w wn w.heap.size w1.heap.size u ns CL l vs ve vc := by
  have hk : Keeps (fun k => (some (w1.heap.size + 1) : Option Nat) = some k) wq wn := grown1b hg
  have hB : Below w1.heap.size w1 wn := BQ.trans (hk.below (fun b hb _ z => by simp at z; omega) BQ.size)
  have lq1 : w1.heap.size < wq.heap.size := by omega
  have lq0 : w.heap.size < wq.heap.size := by omega
  have SA : Scr wn vc (A ++ B) := Scr.of_own (B := w1.heap.size + 1) (by rw [List.flatMap_append, hlen]; exact hown) (fun c hc => by
    obtain ⟨op, j, x, rfl, _⟩ := hL c hc
    exact hu)
  obtain ⟨cb, co, cp, rfl, _⟩ := SA.sl.elem Cl.cells_length (by decide) hne
  exact ⟨cb, co, cp, _, A ++ B, rfl, by omega, rfl, hL, ⟨(hk.block _ lq0 (fun z => by simp at z; omega)).trans P0.val, (hk.block _ lq1 (fun z => by simp at z)).trans P0.box, S1.later hB, SA, P0.below.trans (hk.below (fun b hb _ z => by simp at z; omega) P0.below.size)⟩⟩
set_option maxHeartbeats 16000000 in
theorem pushRemove_c {w : World} {v : Value} {cs : List Cl} (s : Scr w v cs) (hn : cs.length ≤ 1048576) (n m : Int) (u : Vl) (hu : u.ok) :
    Calls Try.prog 6 #[v, .int .i64 n, .int .i64 m, u.agg] w fun r w' => r = .returned (.bool true) ∧ Below w.heap.size w w' := by
  have ST := Lib.hid (fun o => set_c (s.later (below1 w o)) hn n)
  have UO := Lib.hid hu
  clear s hu
  unfold Vl.agg
  go_enter Try.func6, Try.ntmps6
  go_wp2_with fail
  refine (ST.out _).mono ?_
  rintro r w1 ⟨hb1, hcase⟩
  have B1 := Lib.hid ((below1 w _).trans (hb1.mono (by simp)))
  have G1 := Lib.hid (heap_later (heap_alloc_new w (.cells #[.int .i64 u.kind, .int .i64 u.n, .string u.s] 27)) hb1)
  have hw0 : w.heap.size < w1.heap.size := (Array.getElem?_eq_some_iff.1 G1.out).1
  clear hb1 ST
  rcases hcase with ⟨l, vs, ve, rfl, hsc, hok0, hl0, hs1, hn1⟩ | rfl
  · have SC := Lib.hid hsc; have S1 := Lib.hid hs1
    generalize hns : namedC cs = ns at *
    clear hns hsc hok0 hl0
    obtain ⟨y1, y2, rfl⟩ := hs1.form
    have NL := names_length (m := runFrom Md.init ns) ((runFrom Md.init ns).seq l)
    have hlen := scene_len SC.out
    have LN := SC.out.len
    have ELEM := Lib.hid (fun i hi => scene_elem (i := i) SC.out hi)
    generalize hEE : (runFrom Md.init ns).names ((runFrom Md.init ns).seq l) = E at *
    have hE500 : E.length ≤ 500 := by omega
    have NT := Lib.hid (fun o o' => (hn1.later (below2 w1 o o')))
    obtain ⟨x1, x2, rfl⟩ := hn1.form
    have c0 := cell_of_heap (o := 0) G1.out rfl
    have c1 := cell_of_heap (o := 1) G1.out rfl
    have c2 := cell_of_heap (o := 2) G1.out rfl
    clear hs1 hn1 hEE NL hlen
    have L2 : Hid (∀ c ∈ [cIns 3 0 u, cIns 4 0 u], InsCall (runFrom Md.init ns) l u c) := fun c hc => by
      simp only [List.mem_cons, List.not_mem_nil, or_false] at hc
      rcases hc with rfl | rfl
      · exact ⟨7, 0, 0, rfl, .inl rfl, fun q => by omega⟩
      · exact ⟨8, 0, 0, rfl, .inr (.inl rfl), fun q => by omega⟩
    have P0 : Hid (PRAt w ((w1.alloc (.cells #[.slice y1 ns.length y2, .int .i64 (l : Nat), .slice x1 E.length x2] 34)).alloc (.cells #[.int .i64 3, .int .i64 0, .int .i64 0, .int .i64 0, .int .i64 0, .int .i64 u.kind, .int .i64 u.n, .string u.s, .int .i64 4, .int .i64 0, .int .i64 0, .int .i64 0, .int .i64 0, .int .i64 u.kind, .int .i64 u.n, .string u.s] 29)) w.heap.size w1.heap.size u ns [cIns 3 0 u, cIns 4 0 u] l (.slice y1 ns.length y2) (.slice x1 E.length x2) (.slice (some ⟨w1.heap.size + 1, 0, none⟩) 2 2)) := by
      refine ⟨heap_more (heap_more G1.out _) _, heap_more (heap_alloc_new w1 _) _, S1.out.later (below2 w1 _ _), ?_, B1.out.trans ((below2 w1 _ _).mono B1.out.size)⟩
      exact scr_lit (w1.alloc _) [cIns 3 0 u, cIns 4 0 u] 29 (w1.heap.size + 1) 2 (by simp) rfl (by simp [cIns]; exact UO.out)
    have O0 : Hid (((w1.alloc (.cells #[.slice y1 ns.length y2, .int .i64 (l : Nat), .slice x1 E.length x2] 34)).alloc (.cells #[.int .i64 3, .int .i64 0, .int .i64 0, .int .i64 0, .int .i64 0, .int .i64 u.kind, .int .i64 u.n, .string u.s, .int .i64 4, .int .i64 0, .int .i64 0, .int .i64 0, .int .i64 0, .int .i64 u.kind, .int .i64 u.n, .string u.s] 29)).ownsRow (w1.heap.size + 1) 29 8 (.slice (some ⟨w1.heap.size + 1, 0, none⟩) 2 2) 2 ([cIns 3 0 u, cIns 4 0 u].flatMap Cl.cells)) :=
      own_lit2 (w1.alloc _) ([cIns 3 0 u, cIns 4 0 u].flatMap Cl.cells) 29 (by simp) (Nat.le_refl _) rfl (by decide)
    by_cases hE : E = []
    · have CH := Lib.hid (fun o o' => chosen_nil (NT.out o o') hE m)
      clear hE
      go_wp2_with fail
      refine (CH.out _ _).mono ?_
      rintro r w2 ⟨rfl, rfl⟩
      clear CH NT c0 c1 c2 O0
      generalize hwq : ((w1.alloc (.cells #[.slice y1 ns.length y2, .int .i64 (l : Nat), .slice x1 E.length x2] 34)).alloc (.cells #[.int .i64 3, .int .i64 0, .int .i64 0, .int .i64 0, .int .i64 0, .int .i64 u.kind, .int .i64 u.n, .string u.s, .int .i64 4, .int .i64 0, .int .i64 0, .int .i64 0, .int .i64 0, .int .i64 u.kind, .int .i64 u.n, .string u.s] 29)) = wq at *
      clear hwq
      have hC4 : [cIns 3 0 u, cIns 4 0 u].length ≤ 4 := by simp
      have hC0 : [cIns 3 0 u, cIns 4 0 u] ≠ [] := by simp
      generalize hvc : Value.slice (some ⟨w1.heap.size + 1, 0, none⟩) 2 2 = vc at *
      clear hvc
      generalize [cIns 3 0 u, cIns 4 0 u] = CL at *
      obtain ⟨cb, co, cp, rfl, hcell0⟩ := P0.out.calls.sl.elem Cl.cells_length (by decide) hC0
      clear hcell0
      generalize hK : CL.length = K at *
      have HK := Lib.hid hK
      clear hK hC0
      go_wp2_with fail
      go_loopg [50] K (fun n k wr => ∃ j, j + n = K ∧ k = .int .i64 j ∧ PRAt w wr w.heap.size w1.heap.size u ns CL l (.slice y1 ns.length y2) (.slice x1 E.length x2) (.slice (some ⟨cb, co, none⟩) K cp))
      case atStart => exact ⟨0, by omega, rfl, P0.out⟩
      case round =>
        clear P0
        obtain ⟨j, hj, rfl, hP⟩ := hrel
        have Br := Lib.hid hP.below
        by_cases hk0 : gk = 0
        · subst hk0
          obtain rfl : j = K := by omega
          clear hP hj
          go_wp2
          go_ret
          exact ⟨rfl, Br.out⟩
        · have hjK : j < K := by omega
          obtain ⟨c, hget⟩ : ∃ c, CL[j]? = some c := ⟨_, List.getElem?_eq_getElem (by have := HK.out; omega)⟩
          have hIC := L2.out c (List.mem_of_getElem? hget)
          have hcok := hP.calls.ok c (List.mem_of_getElem? hget)
          obtain ⟨q1, q2, a0, q3⟩ := inscall_law SC.out hIC
          have Q1 := Lib.hid q1; have Q2 := Lib.hid q2; have Q3 := Lib.hid q3
          obtain ⟨cb', co', cp', hv, hcell⟩ := hP.calls.sl.elem Cl.cells_length (by decide) (by intro q; rw [q] at hget; simp at hget)
          rw [HK.out] at hv
          simp only [Value.slice.injEq, Option.some.injEq, Addr.mk.injEq] at hv
          obtain ⟨⟨rfl, rfl, _⟩, _, rfl⟩ := hv
          have cc : ∀ t y, c.cells[t]? = some y → wr.cell? ⟨cb, co + j * 8 + t, none⟩ = some y := fun t y hy => by rw [Nat.add_assoc]; exact hcell j c hget t y hy
          have e0 := cc 0 _ rfl; have e1 := cc 1 _ rfl; have e2 := cc 2 _ rfl; have e3 := cc 3 _ rfl; have e4 := cc 4 _ rfl; have e5 := cc 5 _ rfl; have e6 := cc 6 _ rfl; have e7 := cc 7 _ rfl
          simp only [Nat.add_zero] at e0
          have b0 := cell_of_heap (o := 0) hP.box rfl
          have b1 := cell_of_heap (o := 1) hP.box rfl
          have b2 := cell_of_heap (o := 2) hP.box rfl
          have l1 : w1.heap.size < wr.heap.size := (Array.getElem?_eq_some_iff.1 hP.box).1
          have l0 : w.heap.size < wr.heap.size := by omega
          have HP := Lib.hid hP; have HJ := Lib.hid hj
          have WA : Hid (∀ o t, Calls Try.prog 20 #[.agg #[.slice y1 ns.length y2, .int .i64 (l : Nat), .slice x1 E.length x2], .slice (some ⟨wr.heap.size + 1, 0, none⟩) 3 3] ((wr.alloc o).alloc (.cells ([c, cGet ns.length, cMv 11 ns.length 0].flatMap Cl.cells).toArray t)) fun r w' => ∃ v', r = .returned v' ∧ w'.ownsRow ((wr.alloc o).alloc (.cells ([c, cGet ns.length, cMv 11 ns.length 0].flatMap Cl.cells).toArray t)).heap.size 29 8 v' (ns.length + 3) ((ns ++ [c, cGet ns.length, cMv 11 ns.length 0].map (onL l)).flatMap Cl.cells) ∧ (∀ x ∈ ns ++ [c, cGet ns.length, cMv 11 ns.length 0].map (onL l), x.v.ok) ∧ Below ((wr.alloc o).alloc (.cells ([c, cGet ns.length, cMv 11 ns.length 0].flatMap Cl.cells).toArray t)).heap.size ((wr.alloc o).alloc (.cells ([c, cGet ns.length, cMv 11 ns.length 0].flatMap Cl.cells).toArray t)) w') := fun o t =>
            with_f (cl := [c, cGet ns.length, cMv 11 ns.length 0]) (HP.out.scr.later (below2 wr o _)) (scr_lit (wr.alloc o) [c, cGet ns.length, cMv 11 ns.length 0] t (wr.heap.size + 1) 3 (by simp) rfl (by simp [cMv, cGet]; exact ⟨hcok, vl_zero_ok⟩)) ⟨_, _, _, rfl⟩ (by simp; omega)
          clear hP hget hj cc hcell hIC hcok q1 q2 q3
          go_wp2_with fail
          refine (WA.out _ _).mono ?_
          rintro r w4 ⟨v4, rfl, o4, k4, hb4⟩
          have hb24 := (below2 wr _ _).trans (hb4.mono (by simp; omega))
          have P4 := Lib.hid (HP.out.later hb24)
          have O4 := Lib.hid o4; have K4 := Lib.hid k4
          have b04 := cell_of_heap (o := 0) P4.out.box rfl
          have S4 : Scr w4 v4 (ns ++ [c, cGet ns.length, cMv 11 ns.length 0].map (onL l)) := Scr.of_own (B := ((wr.alloc (.cells c.cells.toArray 29)).alloc (.cells ([c, cGet ns.length, cMv 11 ns.length 0].flatMap Cl.cells).toArray 29)).heap.size) (by rw [List.length_append]; exact o4) k4
          have AL := Lib.hid (alike_c P4.out.scr S4 P4.out.scr Q1.out (ok_mono (by decide) _ SC.out.ok) (fun k hk => by rw [runFrom_append]; exact run_isL_mono _ (mem_lists k hk)) (fun k hk => mem_lists k hk) (fun k _ => Q2.out k) (by decide) (by omega) (by simp; omega) (by omega))
          obtain ⟨vb, vp, rfl⟩ := own_form o4 (by omega)
          have hcap1 := (own_room o4).1
          have hcapne : ¬ vp = ns.length := by omega
          have hle3 : (ns.length : Int) ≤ (ns.length : Int) + 3 := by omega
          clear hb4 WA b0 b1 b2 e0 e1 e2 e3 e4 e5 e6 e7 hb24 k4 o4 S4
          go_wp2_with fail
          refine AL.out.mono ?_
          rintro r w5 ⟨rfl, hb5⟩
          have P5 := Lib.hid (P4.out.later hb5)
          have O5 := Lib.hid (own_below O4.out hb5)
          clear hb5 AL b04
          go_wp2_with fail
          refine wp_region_T (fun X => X.cell? ⟨w1.heap.size, 0, none⟩ = some (.slice y1 ns.length y2)) [7] [] run_mixed ?_
          simp only [List.size_toArray, List.length_cons, List.length_nil]
          have HS : (fun X : World => X.cell? ⟨w1.heap.size, 0, none⟩ = some (.slice y1 ns.length y2)) w5.drew := cell_of_heap (o := 0) P5.out.box rfl
          refine wpT_takeG (i := 0) (v := ?vpa0) rfl (by kernel_rfl) (fun _ _ _ h => h) rfl ?ypa0 ?rpa0
          case ypa0 => ((intro wz; go_simp); try with_reducible rfl)
          try simp only [Act.put, List.setIfInBounds_toArray, List.set_cons_zero, List.set_cons_succ]
          refine wpT_loadG (i := 1) (v := ?vpa1) rfl (by kernel_rfl) (fun _ _ _ h => h) rfl ?ypa1 HS ?rpa1
          case ypa1 => ((intro wz hSw; (try dsimp only at hSw); go_split_ands; go_simp); try with_reducible rfl)
          try simp only [Act.put, List.setIfInBounds_toArray, List.set_cons_zero, List.set_cons_succ]
          refine wpT_takeG (i := 2) (v := ?vpa2) rfl (by kernel_rfl) (fun _ _ _ h => h) rfl ?ypa2 ?rpa2
          case ypa2 => ((intro wz; go_simp); try with_reducible rfl)
          try simp only [Act.put, List.setIfInBounds_toArray, List.set_cons_zero, List.set_cons_succ]
          refine wpT_takeG (i := 3) (v := ?vpa3) rfl (by kernel_rfl) (fun _ _ _ h => h) rfl ?ypa3 ?rpa3
          case ypa3 => ((intro wz; go_simp); try with_reducible rfl)
          try simp only [Act.put, List.setIfInBounds_toArray, List.set_cons_zero, List.set_cons_succ]
          refine wpT_loadG (i := 4) (v := ?vpa4) rfl (by kernel_rfl) (fun _ _ _ h => h) rfl ?ypa4 HS ?rpa4
          case ypa4 => ((intro wz hSw; (try dsimp only at hSw); go_split_ands; go_simp); try with_reducible rfl)
          try simp only [Act.put, List.setIfInBounds_toArray, List.set_cons_zero, List.set_cons_succ]
          refine wpT_takeG (i := 5) (v := ?vpa5) rfl (by kernel_rfl) (fun _ _ _ h => h) rfl ?ypa5 ?rpa5
          case ypa5 => ((intro wz; go_simp); try with_reducible rfl)
          try simp only [Act.put, List.setIfInBounds_toArray, List.set_cons_zero, List.set_cons_succ]
          refine wpT_takeG (i := 6) (v := ?vpa6) rfl (by kernel_rfl) (fun _ _ _ h => h) rfl ?ypa6 ?rpa6
          case ypa6 => ((intro wz; go_simp); try with_reducible rfl)
          try simp only [Act.put, List.setIfInBounds_toArray, List.set_cons_zero, List.set_cons_succ]
          refine wpT_runG (i := 7) (by kernel_rfl) rfl rfl ?_
          go_simp
          have SR : Scr w5.drew (.slice (some ⟨vb, ns.length * 8, none⟩) 3 (vp - ns.length)) ([c, cGet ns.length, cMv 11 ns.length 0].map (onL l)) := scr_rest O5.out.drew rfl (by simp) (fun x hx => K4.out x (List.mem_append_right _ hx)) _
          refine (behind_c (P5.out.scr.later (Below.refl _ w5).drew) SR Q1.out (by decide) (by simp; omega)).mono ?_
          rintro r w6 ⟨v6, rfl, s6, hr6, hb6⟩
          have P6 := Lib.hid ((P5.out.later (Below.refl _ w5).drew).later hb6)
          refine ⟨cond_keep (by decide) (cell_of_heap (o := 0) P6.out.box rfl), ?_⟩
          rw [Q3.out] at s6
          obtain ⟨tb, tq, tc, rfl, hcell⟩ := s6.elem (l := [a0, ⟨-1, 0, canon u⟩, ⟨-1, 0, canon u⟩]) An.cells_length (by decide) (by simp)
          have d12 : w6.cell? ⟨tb, tq + 7, none⟩ = some (.int .i64 (canon u).kind) := hcell 1 _ rfl 2 _ rfl
          have d13 : w6.cell? ⟨tb, tq + 8, none⟩ = some (.int .i64 (canon u).n) := hcell 1 _ rfl 3 _ rfl
          have d14 : w6.cell? ⟨tb, tq + 9, none⟩ = some (.string (canon u).s) := hcell 1 _ rfl 4 _ rfl
          have d22 : w6.cell? ⟨tb, tq + 12, none⟩ = some (.int .i64 (canon u).kind) := hcell 2 _ rfl 2 _ rfl
          have d23 : w6.cell? ⟨tb, tq + 13, none⟩ = some (.int .i64 (canon u).n) := hcell 2 _ rfl 3 _ rfl
          have d24 : w6.cell? ⟨tb, tq + 14, none⟩ = some (.string (canon u).s) := hcell 2 _ rfl 4 _ rfl
          clear s6 hr6 hb6 hcell SR HS
          refine wpT_takeG (i := 8) (v := ?vpb8) rfl (by kernel_rfl) (fun _ _ _ h => h) rfl ?ypb8 ?rpb8
          case ypb8 => ((intro wz; go_simp); try with_reducible rfl)
          try simp only [Act.put, List.setIfInBounds_toArray, List.set_cons_zero, List.set_cons_succ]
          refine wpT_done (by kernel_rfl) ?_ _
          have HCK := Lib.hid (canon_kind u)
          generalize hcu : canon u = cu at *
          clear hcu Q3
          go_wp2_with fail
          have tbl : tb < w6.heap.size := World.block_lt_of_cell? w6 _ d12
          have HSW : Hid (∀ W, Below w6.heap.size w6 W → (fun X : World => X.cell? ⟨tb, tq + 7, none⟩ = some (.int .i64 cu.kind) ∧ X.cell? ⟨tb, tq + 8, none⟩ = some (.int .i64 cu.n) ∧ X.cell? ⟨tb, tq + 9, none⟩ = some (.string cu.s) ∧ X.cell? ⟨tb, tq + 12, none⟩ = some (.int .i64 cu.kind) ∧ X.cell? ⟨tb, tq + 13, none⟩ = some (.int .i64 cu.n) ∧ X.cell? ⟨tb, tq + 14, none⟩ = some (.string cu.s) ∧ X.cell? ⟨w.heap.size, 0, none⟩ = some (.int .i64 u.kind) ∧ X.cell? ⟨w.heap.size, 1, none⟩ = some (.int .i64 u.n) ∧ X.cell? ⟨w.heap.size, 2, none⟩ = some (.string u.s)) W) := fun W hb => ⟨(hb.cell (p := ⟨tb, tq + 7, none⟩) tbl).trans d12, (hb.cell (p := ⟨tb, tq + 8, none⟩) tbl).trans d13, (hb.cell (p := ⟨tb, tq + 9, none⟩) tbl).trans d14, (hb.cell (p := ⟨tb, tq + 12, none⟩) tbl).trans d22, (hb.cell (p := ⟨tb, tq + 13, none⟩) tbl).trans d23, (hb.cell (p := ⟨tb, tq + 14, none⟩) tbl).trans d24,
            cell_of_heap (o := 0) (heap_later P6.out.val hb) rfl, cell_of_heap (o := 1) (heap_later P6.out.val hb) rfl, cell_of_heap (o := 2) (heap_later P6.out.val hb) rfl⟩
          refine wp_region_T (fun X : World => X.cell? ⟨tb, tq + 7, none⟩ = some (.int .i64 cu.kind) ∧ X.cell? ⟨tb, tq + 8, none⟩ = some (.int .i64 cu.n) ∧ X.cell? ⟨tb, tq + 9, none⟩ = some (.string cu.s) ∧ X.cell? ⟨tb, tq + 12, none⟩ = some (.int .i64 cu.kind) ∧ X.cell? ⟨tb, tq + 13, none⟩ = some (.int .i64 cu.n) ∧ X.cell? ⟨tb, tq + 14, none⟩ = some (.string cu.s) ∧ X.cell? ⟨w.heap.size, 0, none⟩ = some (.int .i64 u.kind) ∧ X.cell? ⟨w.heap.size, 1, none⟩ = some (.int .i64 u.n) ∧ X.cell? ⟨w.heap.size, 2, none⟩ = some (.string u.s)) [16] [] run_mixed ?_
          simp only [List.size_toArray, List.length_cons, List.length_nil]
          have HS2 := HSW.out w6.drew (Below.refl _ w6).drew
          clear d12 d13 d14 d22 d23 d24
          refine wpT_takeG (i := 0) (v := ?vpc0) rfl (by kernel_rfl) (fun _ _ _ h => h) rfl ?ypc0 ?rpc0
          case ypc0 => ((intro wz; go_simp); try with_reducible rfl)
          try simp only [Act.put, List.setIfInBounds_toArray, List.set_cons_zero, List.set_cons_succ]
          refine wpT_takeG (i := 1) (v := ?vpc1) rfl (by kernel_rfl) (fun _ _ _ h => h) rfl ?ypc1 ?rpc1
          case ypc1 => ((intro wz; go_simp); try with_reducible rfl)
          try simp only [Act.put, List.setIfInBounds_toArray, List.set_cons_zero, List.set_cons_succ]
          refine wpT_takeG (i := 2) (v := ?vpc2) rfl (by kernel_rfl) (fun _ _ _ h => h) rfl ?ypc2 ?rpc2
          case ypc2 => ((intro wz; go_simp); try with_reducible rfl)
          try simp only [Act.put, List.setIfInBounds_toArray, List.set_cons_zero, List.set_cons_succ]
          refine wpT_loadG (i := 3) (v := ?vpc3) rfl (by kernel_rfl) (fun _ _ _ h => h) rfl ?ypc3 HS2 ?rpc3
          case ypc3 => ((intro wz hSw; (try dsimp only at hSw); go_split_ands; go_simp); try with_reducible rfl)
          try simp only [Act.put, List.setIfInBounds_toArray, List.set_cons_zero, List.set_cons_succ]
          refine wpT_takeG (i := 4) (v := ?vpc4) rfl (by kernel_rfl) (fun _ _ _ h => h) rfl ?ypc4 ?rpc4
          case ypc4 => ((intro wz; go_simp); try with_reducible rfl)
          try simp only [Act.put, List.setIfInBounds_toArray, List.set_cons_zero, List.set_cons_succ]
          refine wpT_takeG (i := 5) (v := ?vpc5) rfl (by kernel_rfl) (fun _ _ _ h => h) rfl ?ypc5 ?rpc5
          case ypc5 => ((intro wz; go_simp); try with_reducible rfl)
          try simp only [Act.put, List.setIfInBounds_toArray, List.set_cons_zero, List.set_cons_succ]
          refine wpT_takeG (i := 6) (v := ?vpc6) rfl (by kernel_rfl) (fun _ _ _ h => h) rfl ?ypc6 ?rpc6
          case ypc6 => ((intro wz; go_simp); try with_reducible rfl)
          try simp only [Act.put, List.setIfInBounds_toArray, List.set_cons_zero, List.set_cons_succ]
          refine wpT_loadG (i := 7) (v := ?vpc7) rfl (by kernel_rfl) (fun _ _ _ h => h) rfl ?ypc7 HS2 ?rpc7
          case ypc7 => ((intro wz hSw; (try dsimp only at hSw); go_split_ands; go_simp); try with_reducible rfl)
          try simp only [Act.put, List.setIfInBounds_toArray, List.set_cons_zero, List.set_cons_succ]
          refine wpT_takeG (i := 8) (v := ?vpc8) rfl (by kernel_rfl) (fun _ _ _ h => h) rfl ?ypc8 ?rpc8
          case ypc8 => ((intro wz; go_simp); try with_reducible rfl)
          try simp only [Act.put, List.setIfInBounds_toArray, List.set_cons_zero, List.set_cons_succ]
          refine wpT_takeG (i := 9) (v := ?vpc9) rfl (by kernel_rfl) (fun _ _ _ h => h) rfl ?ypc9 ?rpc9
          case ypc9 => ((intro wz; go_simp); try with_reducible rfl)
          try simp only [Act.put, List.setIfInBounds_toArray, List.set_cons_zero, List.set_cons_succ]
          refine wpT_takeG (i := 10) (v := ?vpc10) rfl (by kernel_rfl) (fun _ _ _ h => h) rfl ?ypc10 ?rpc10
          case ypc10 => ((intro wz; go_simp); try with_reducible rfl)
          try simp only [Act.put, List.setIfInBounds_toArray, List.set_cons_zero, List.set_cons_succ]
          refine wpT_takeG (i := 11) (v := ?vpc11) rfl (by kernel_rfl) (fun _ _ _ h => h) rfl ?ypc11 ?rpc11
          case ypc11 => ((intro wz; go_simp); try with_reducible rfl)
          try simp only [Act.put, List.setIfInBounds_toArray, List.set_cons_zero, List.set_cons_succ]
          refine wpT_takeG (i := 12) (v := ?vpc12) rfl (by kernel_rfl) (fun _ _ _ h => h) rfl ?ypc12 ?rpc12
          case ypc12 => ((intro wz; go_simp); try with_reducible rfl)
          try simp only [Act.put, List.setIfInBounds_toArray, List.set_cons_zero, List.set_cons_succ]
          refine wpT_takeG (i := 13) (v := ?vpc13) rfl (by kernel_rfl) (fun _ _ _ h => h) rfl ?ypc13 ?rpc13
          case ypc13 => ((intro wz; go_simp); try with_reducible rfl)
          try simp only [Act.put, List.setIfInBounds_toArray, List.set_cons_zero, List.set_cons_succ]
          refine wpT_loadG (i := 14) (v := ?vpc14) rfl (by kernel_rfl) (fun _ _ _ h => h) rfl ?ypc14 HS2 ?rpc14
          case ypc14 => ((intro wz hSw; (try dsimp only at hSw); go_split_ands; go_simp); try with_reducible rfl)
          try simp only [Act.put, List.setIfInBounds_toArray, List.set_cons_zero, List.set_cons_succ]
          refine wpT_loadG (i := 15) (v := ?vpc15) rfl (by kernel_rfl) (fun _ _ _ h => h) rfl ?ypc15 HS2 ?rpc15
          case ypc15 => ((intro wz hSw; (try dsimp only at hSw); go_split_ands; go_simp); try with_reducible rfl)
          try simp only [Act.put, List.setIfInBounds_toArray, List.set_cons_zero, List.set_cons_succ]
          refine wpT_runG (i := 16) (by kernel_rfl) rfl rfl ?_
          go_simp
          refine (kind_c u w6.drew).mono ?_
          rintro r w7 ⟨rfl, hb7⟩
          have hb67 := (Below.refl _ w6).drew.trans hb7
          refine ⟨cond_keep (by decide) (HSW.out _ hb67), ?_⟩
          have P7 := Lib.hid (P6.out.later hb67)
          rw [← HCK.out]
          clear hb67 hb7 HS2
          refine wpT_takeG (i := 17) (v := ?vpd17) rfl (by kernel_rfl) (fun _ _ _ h => h) rfl ?ypd17 ?rpd17
          case ypd17 => ((intro wz; go_simp); try with_reducible rfl)
          try simp only [Act.put, List.setIfInBounds_toArray, List.set_cons_zero, List.set_cons_succ]
          refine wpT_takeG (i := 18) (v := ?vpd18) rfl (by kernel_rfl) (fun _ _ _ h => h) rfl ?ypd18 ?rpd18
          case ypd18 => ((intro wz; go_simp); try with_reducible rfl)
          try simp only [Act.put, List.setIfInBounds_toArray, List.set_cons_zero, List.set_cons_succ]
          refine wpT_done (by kernel_rfl) ?_ _
          go_wp2
          go_roundg (gk - 1)
          case measure => omega
          case rel => exact ⟨j + 1, by have := HJ.out; omega, by go_num, P7.out⟩
    · have CH := Lib.hid (fun o o' => chosen_c (NT.out o o') hE (by omega) m)
      clear hE
      go_wp2_with fail
      refine (CH.out _ _).mono ?_
      rintro r w2 ⟨i, hi, rfl, rfl⟩
      obtain ⟨e, he, hfe, hre⟩ := ELEM.out i hi
      have L4 : Hid (∀ c ∈ [cIns 3 0 u, cIns 4 0 u] ++ [cIns 5 i u, cIns 6 i u], InsCall (runFrom Md.init ns) l u c) := fun c hc => by
        rcases List.mem_append.1 hc with q | q
        · exact L2.out c q
        · simp only [List.mem_cons, List.not_mem_nil, or_false] at q
          rcases q with rfl | rfl
          · exact ⟨9, i, e, rfl, .inr (.inr (.inl rfl)), fun _ => ⟨hre, he⟩⟩
          · exact ⟨10, i, e, rfl, .inr (.inr (.inr rfl)), fun _ => ⟨hre, he⟩⟩
      clear CH NT hi he hfe hre L2
      have BQ : Hid (Below w1.heap.size w1 ((w1.alloc (.cells #[.slice y1 ns.length y2, .int .i64 (l : Nat), .slice x1 E.length x2] 34)).alloc (.cells #[.int .i64 3, .int .i64 0, .int .i64 0, .int .i64 0, .int .i64 0, .int .i64 u.kind, .int .i64 u.n, .string u.s, .int .i64 4, .int .i64 0, .int .i64 0, .int .i64 0, .int .i64 0, .int .i64 u.kind, .int .i64 u.n, .string u.s] 29))) := below2 w1 _ _
      generalize hwq : ((w1.alloc (.cells #[.slice y1 ns.length y2, .int .i64 (l : Nat), .slice x1 E.length x2] 34)).alloc (.cells #[.int .i64 3, .int .i64 0, .int .i64 0, .int .i64 0, .int .i64 0, .int .i64 u.kind, .int .i64 u.n, .string u.s, .int .i64 4, .int .i64 0, .int .i64 0, .int .i64 0, .int .i64 0, .int .i64 u.kind, .int .i64 u.n, .string u.s] 29)) = wq at *
      have zq : w1.heap.size + 1 < wq.heap.size := by rw [← hwq]; simp
      clear hwq
      have c0' := cell_of_heap (o := 0) P0.out.val rfl
      have c1' := cell_of_heap (o := 1) P0.out.val rfl
      have c2' := cell_of_heap (o := 2) P0.out.val rfl
      clear c0 c1 c2
      have z01 : w.heap.size < w1.heap.size + 1 := by omega
      go_wp2_with (at_builtin; refine wpList_app2 rfl (.tmp 39) (.tmp 46) 22 rfl (w1.heap.size + 1) 29 _ 8 72 Try.underlying22 Try.infoICall rfl (by decide) _ _ _ rfl (O0.out.alloc _) _ 2 ([cIns 5 i u, cIns 6 i u].flatMap Cl.cells) rfl (sl_at' _ _ _ _ _ _ (by simp)) rfl (by simp [Cl.cells, cIns, Value.oneCell']) (.inr (.inr (by decide))) (by omega) (by decide) (by simp; omega) ?_; intro vc wn hown hg hnn; obtain ⟨cb, co, cp, K, CL, rfl, hC4, hK, hL4, hP⟩ := pr_more P0.out L4.out UO.out S1.out BQ.out zq z01 B1.out.size (by simp) rfl hown hg; have HK := Lib.hid hK; have P2 := Lib.hid hP; have L5 := Lib.hid hL4; clear hown hg hnn hK hP hL4)
      clear P0 L4 BQ zq c0' c1' c2' O0 z01
      have P0 := P2; have L2 := L5
      clear P2 L5
      go_loopg [50] K (fun n k wr => ∃ j, j + n = K ∧ k = .int .i64 j ∧ PRAt w wr w.heap.size w1.heap.size u ns CL l (.slice y1 ns.length y2) (.slice x1 E.length x2) (.slice (some ⟨cb, co, none⟩) K cp))
      case atStart => exact ⟨0, by omega, rfl, P0.out⟩
      case round =>
        clear P0
        obtain ⟨j, hj, rfl, hP⟩ := hrel
        have Br := Lib.hid hP.below
        by_cases hk0 : gk = 0
        · subst hk0
          obtain rfl : j = K := by omega
          clear hP hj
          go_wp2
          go_ret
          exact ⟨rfl, Br.out⟩
        · have hjK : j < K := by omega
          obtain ⟨c, hget⟩ : ∃ c, CL[j]? = some c := ⟨_, List.getElem?_eq_getElem (by have := HK.out; omega)⟩
          have hIC := L2.out c (List.mem_of_getElem? hget)
          have hcok := hP.calls.ok c (List.mem_of_getElem? hget)
          obtain ⟨q1, q2, a0, q3⟩ := inscall_law SC.out hIC
          have Q1 := Lib.hid q1; have Q2 := Lib.hid q2; have Q3 := Lib.hid q3
          obtain ⟨cb', co', cp', hv, hcell⟩ := hP.calls.sl.elem Cl.cells_length (by decide) (by intro q; rw [q] at hget; simp at hget)
          rw [HK.out] at hv
          simp only [Value.slice.injEq, Option.some.injEq, Addr.mk.injEq] at hv
          obtain ⟨⟨rfl, rfl, _⟩, _, rfl⟩ := hv
          have cc : ∀ t y, c.cells[t]? = some y → wr.cell? ⟨cb, co + j * 8 + t, none⟩ = some y := fun t y hy => by rw [Nat.add_assoc]; exact hcell j c hget t y hy
          have e0 := cc 0 _ rfl; have e1 := cc 1 _ rfl; have e2 := cc 2 _ rfl; have e3 := cc 3 _ rfl; have e4 := cc 4 _ rfl; have e5 := cc 5 _ rfl; have e6 := cc 6 _ rfl; have e7 := cc 7 _ rfl
          simp only [Nat.add_zero] at e0
          have b0 := cell_of_heap (o := 0) hP.box rfl
          have b1 := cell_of_heap (o := 1) hP.box rfl
          have b2 := cell_of_heap (o := 2) hP.box rfl
          have l1 : w1.heap.size < wr.heap.size := (Array.getElem?_eq_some_iff.1 hP.box).1
          have l0 : w.heap.size < wr.heap.size := by omega
          have HP := Lib.hid hP; have HJ := Lib.hid hj
          have WA : Hid (∀ o t, Calls Try.prog 20 #[.agg #[.slice y1 ns.length y2, .int .i64 (l : Nat), .slice x1 E.length x2], .slice (some ⟨wr.heap.size + 1, 0, none⟩) 3 3] ((wr.alloc o).alloc (.cells ([c, cGet ns.length, cMv 11 ns.length 0].flatMap Cl.cells).toArray t)) fun r w' => ∃ v', r = .returned v' ∧ w'.ownsRow ((wr.alloc o).alloc (.cells ([c, cGet ns.length, cMv 11 ns.length 0].flatMap Cl.cells).toArray t)).heap.size 29 8 v' (ns.length + 3) ((ns ++ [c, cGet ns.length, cMv 11 ns.length 0].map (onL l)).flatMap Cl.cells) ∧ (∀ x ∈ ns ++ [c, cGet ns.length, cMv 11 ns.length 0].map (onL l), x.v.ok) ∧ Below ((wr.alloc o).alloc (.cells ([c, cGet ns.length, cMv 11 ns.length 0].flatMap Cl.cells).toArray t)).heap.size ((wr.alloc o).alloc (.cells ([c, cGet ns.length, cMv 11 ns.length 0].flatMap Cl.cells).toArray t)) w') := fun o t =>
            with_f (cl := [c, cGet ns.length, cMv 11 ns.length 0]) (HP.out.scr.later (below2 wr o _)) (scr_lit (wr.alloc o) [c, cGet ns.length, cMv 11 ns.length 0] t (wr.heap.size + 1) 3 (by simp) rfl (by simp [cMv, cGet]; exact ⟨hcok, vl_zero_ok⟩)) ⟨_, _, _, rfl⟩ (by simp; omega)
          clear hP hget hj cc hcell hIC hcok q1 q2 q3
          go_wp2_with fail
          refine (WA.out _ _).mono ?_
          rintro r w4 ⟨v4, rfl, o4, k4, hb4⟩
          have hb24 := (below2 wr _ _).trans (hb4.mono (by simp; omega))
          have P4 := Lib.hid (HP.out.later hb24)
          have O4 := Lib.hid o4; have K4 := Lib.hid k4
          have b04 := cell_of_heap (o := 0) P4.out.box rfl
          have S4 : Scr w4 v4 (ns ++ [c, cGet ns.length, cMv 11 ns.length 0].map (onL l)) := Scr.of_own (B := ((wr.alloc (.cells c.cells.toArray 29)).alloc (.cells ([c, cGet ns.length, cMv 11 ns.length 0].flatMap Cl.cells).toArray 29)).heap.size) (by rw [List.length_append]; exact o4) k4
          have AL := Lib.hid (alike_c P4.out.scr S4 P4.out.scr Q1.out (ok_mono (by decide) _ SC.out.ok) (fun k hk => by rw [runFrom_append]; exact run_isL_mono _ (mem_lists k hk)) (fun k hk => mem_lists k hk) (fun k _ => Q2.out k) (by decide) (by omega) (by simp; omega) (by omega))
          obtain ⟨vb, vp, rfl⟩ := own_form o4 (by omega)
          have hcap1 := (own_room o4).1
          have hcapne : ¬ vp = ns.length := by omega
          have hle3 : (ns.length : Int) ≤ (ns.length : Int) + 3 := by omega
          clear hb4 WA b0 b1 b2 e0 e1 e2 e3 e4 e5 e6 e7 hb24 k4 o4 S4
          go_wp2_with fail
          refine AL.out.mono ?_
          rintro r w5 ⟨rfl, hb5⟩
          have P5 := Lib.hid (P4.out.later hb5)
          have O5 := Lib.hid (own_below O4.out hb5)
          clear hb5 AL b04
          go_wp2_with fail
          refine wp_region_T (fun X => X.cell? ⟨w1.heap.size, 0, none⟩ = some (.slice y1 ns.length y2)) [7] [] run_mixed ?_
          simp only [List.size_toArray, List.length_cons, List.length_nil]
          have HS : (fun X : World => X.cell? ⟨w1.heap.size, 0, none⟩ = some (.slice y1 ns.length y2)) w5.drew := cell_of_heap (o := 0) P5.out.box rfl
          refine wpT_takeG (i := 0) (v := ?vqa0) rfl (by kernel_rfl) (fun _ _ _ h => h) rfl ?yqa0 ?rqa0
          case yqa0 => ((intro wz; go_simp); try with_reducible rfl)
          try simp only [Act.put, List.setIfInBounds_toArray, List.set_cons_zero, List.set_cons_succ]
          refine wpT_loadG (i := 1) (v := ?vqa1) rfl (by kernel_rfl) (fun _ _ _ h => h) rfl ?yqa1 HS ?rqa1
          case yqa1 => ((intro wz hSw; (try dsimp only at hSw); go_split_ands; go_simp); try with_reducible rfl)
          try simp only [Act.put, List.setIfInBounds_toArray, List.set_cons_zero, List.set_cons_succ]
          refine wpT_takeG (i := 2) (v := ?vqa2) rfl (by kernel_rfl) (fun _ _ _ h => h) rfl ?yqa2 ?rqa2
          case yqa2 => ((intro wz; go_simp); try with_reducible rfl)
          try simp only [Act.put, List.setIfInBounds_toArray, List.set_cons_zero, List.set_cons_succ]
          refine wpT_takeG (i := 3) (v := ?vqa3) rfl (by kernel_rfl) (fun _ _ _ h => h) rfl ?yqa3 ?rqa3
          case yqa3 => ((intro wz; go_simp); try with_reducible rfl)
          try simp only [Act.put, List.setIfInBounds_toArray, List.set_cons_zero, List.set_cons_succ]
          refine wpT_loadG (i := 4) (v := ?vqa4) rfl (by kernel_rfl) (fun _ _ _ h => h) rfl ?yqa4 HS ?rqa4
          case yqa4 => ((intro wz hSw; (try dsimp only at hSw); go_split_ands; go_simp); try with_reducible rfl)
          try simp only [Act.put, List.setIfInBounds_toArray, List.set_cons_zero, List.set_cons_succ]
          refine wpT_takeG (i := 5) (v := ?vqa5) rfl (by kernel_rfl) (fun _ _ _ h => h) rfl ?yqa5 ?rqa5
          case yqa5 => ((intro wz; go_simp); try with_reducible rfl)
          try simp only [Act.put, List.setIfInBounds_toArray, List.set_cons_zero, List.set_cons_succ]
          refine wpT_takeG (i := 6) (v := ?vqa6) rfl (by kernel_rfl) (fun _ _ _ h => h) rfl ?yqa6 ?rqa6
          case yqa6 => ((intro wz; go_simp); try with_reducible rfl)
          try simp only [Act.put, List.setIfInBounds_toArray, List.set_cons_zero, List.set_cons_succ]
          refine wpT_runG (i := 7) (by kernel_rfl) rfl rfl ?_
          go_simp
          have SR : Scr w5.drew (.slice (some ⟨vb, ns.length * 8, none⟩) 3 (vp - ns.length)) ([c, cGet ns.length, cMv 11 ns.length 0].map (onL l)) := scr_rest O5.out.drew rfl (by simp) (fun x hx => K4.out x (List.mem_append_right _ hx)) _
          refine (behind_c (P5.out.scr.later (Below.refl _ w5).drew) SR Q1.out (by decide) (by simp; omega)).mono ?_
          rintro r w6 ⟨v6, rfl, s6, hr6, hb6⟩
          have P6 := Lib.hid ((P5.out.later (Below.refl _ w5).drew).later hb6)
          refine ⟨cond_keep (by decide) (cell_of_heap (o := 0) P6.out.box rfl), ?_⟩
          rw [Q3.out] at s6
          obtain ⟨tb, tq, tc, rfl, hcell⟩ := s6.elem (l := [a0, ⟨-1, 0, canon u⟩, ⟨-1, 0, canon u⟩]) An.cells_length (by decide) (by simp)
          have d12 : w6.cell? ⟨tb, tq + 7, none⟩ = some (.int .i64 (canon u).kind) := hcell 1 _ rfl 2 _ rfl
          have d13 : w6.cell? ⟨tb, tq + 8, none⟩ = some (.int .i64 (canon u).n) := hcell 1 _ rfl 3 _ rfl
          have d14 : w6.cell? ⟨tb, tq + 9, none⟩ = some (.string (canon u).s) := hcell 1 _ rfl 4 _ rfl
          have d22 : w6.cell? ⟨tb, tq + 12, none⟩ = some (.int .i64 (canon u).kind) := hcell 2 _ rfl 2 _ rfl
          have d23 : w6.cell? ⟨tb, tq + 13, none⟩ = some (.int .i64 (canon u).n) := hcell 2 _ rfl 3 _ rfl
          have d24 : w6.cell? ⟨tb, tq + 14, none⟩ = some (.string (canon u).s) := hcell 2 _ rfl 4 _ rfl
          clear s6 hr6 hb6 hcell SR HS
          refine wpT_takeG (i := 8) (v := ?vqb8) rfl (by kernel_rfl) (fun _ _ _ h => h) rfl ?yqb8 ?rqb8
          case yqb8 => ((intro wz; go_simp); try with_reducible rfl)
          try simp only [Act.put, List.setIfInBounds_toArray, List.set_cons_zero, List.set_cons_succ]
          refine wpT_done (by kernel_rfl) ?_ _
          have HCK := Lib.hid (canon_kind u)
          generalize hcu : canon u = cu at *
          clear hcu Q3
          go_wp2_with fail
          have tbl : tb < w6.heap.size := World.block_lt_of_cell? w6 _ d12
          have HSW : Hid (∀ W, Below w6.heap.size w6 W → (fun X : World => X.cell? ⟨tb, tq + 7, none⟩ = some (.int .i64 cu.kind) ∧ X.cell? ⟨tb, tq + 8, none⟩ = some (.int .i64 cu.n) ∧ X.cell? ⟨tb, tq + 9, none⟩ = some (.string cu.s) ∧ X.cell? ⟨tb, tq + 12, none⟩ = some (.int .i64 cu.kind) ∧ X.cell? ⟨tb, tq + 13, none⟩ = some (.int .i64 cu.n) ∧ X.cell? ⟨tb, tq + 14, none⟩ = some (.string cu.s) ∧ X.cell? ⟨w.heap.size, 0, none⟩ = some (.int .i64 u.kind) ∧ X.cell? ⟨w.heap.size, 1, none⟩ = some (.int .i64 u.n) ∧ X.cell? ⟨w.heap.size, 2, none⟩ = some (.string u.s)) W) := fun W hb => ⟨(hb.cell (p := ⟨tb, tq + 7, none⟩) tbl).trans d12, (hb.cell (p := ⟨tb, tq + 8, none⟩) tbl).trans d13, (hb.cell (p := ⟨tb, tq + 9, none⟩) tbl).trans d14, (hb.cell (p := ⟨tb, tq + 12, none⟩) tbl).trans d22, (hb.cell (p := ⟨tb, tq + 13, none⟩) tbl).trans d23, (hb.cell (p := ⟨tb, tq + 14, none⟩) tbl).trans d24,
            cell_of_heap (o := 0) (heap_later P6.out.val hb) rfl, cell_of_heap (o := 1) (heap_later P6.out.val hb) rfl, cell_of_heap (o := 2) (heap_later P6.out.val hb) rfl⟩
          refine wp_region_T (fun X : World => X.cell? ⟨tb, tq + 7, none⟩ = some (.int .i64 cu.kind) ∧ X.cell? ⟨tb, tq + 8, none⟩ = some (.int .i64 cu.n) ∧ X.cell? ⟨tb, tq + 9, none⟩ = some (.string cu.s) ∧ X.cell? ⟨tb, tq + 12, none⟩ = some (.int .i64 cu.kind) ∧ X.cell? ⟨tb, tq + 13, none⟩ = some (.int .i64 cu.n) ∧ X.cell? ⟨tb, tq + 14, none⟩ = some (.string cu.s) ∧ X.cell? ⟨w.heap.size, 0, none⟩ = some (.int .i64 u.kind) ∧ X.cell? ⟨w.heap.size, 1, none⟩ = some (.int .i64 u.n) ∧ X.cell? ⟨w.heap.size, 2, none⟩ = some (.string u.s)) [16] [] run_mixed ?_
          simp only [List.size_toArray, List.length_cons, List.length_nil]
          have HS2 := HSW.out w6.drew (Below.refl _ w6).drew
          clear d12 d13 d14 d22 d23 d24
          refine wpT_takeG (i := 0) (v := ?vqc0) rfl (by kernel_rfl) (fun _ _ _ h => h) rfl ?yqc0 ?rqc0
          case yqc0 => ((intro wz; go_simp); try with_reducible rfl)
          try simp only [Act.put, List.setIfInBounds_toArray, List.set_cons_zero, List.set_cons_succ]
          refine wpT_takeG (i := 1) (v := ?vqc1) rfl (by kernel_rfl) (fun _ _ _ h => h) rfl ?yqc1 ?rqc1
          case yqc1 => ((intro wz; go_simp); try with_reducible rfl)
          try simp only [Act.put, List.setIfInBounds_toArray, List.set_cons_zero, List.set_cons_succ]
          refine wpT_takeG (i := 2) (v := ?vqc2) rfl (by kernel_rfl) (fun _ _ _ h => h) rfl ?yqc2 ?rqc2
          case yqc2 => ((intro wz; go_simp); try with_reducible rfl)
          try simp only [Act.put, List.setIfInBounds_toArray, List.set_cons_zero, List.set_cons_succ]
          refine wpT_loadG (i := 3) (v := ?vqc3) rfl (by kernel_rfl) (fun _ _ _ h => h) rfl ?yqc3 HS2 ?rqc3
          case yqc3 => ((intro wz hSw; (try dsimp only at hSw); go_split_ands; go_simp); try with_reducible rfl)
          try simp only [Act.put, List.setIfInBounds_toArray, List.set_cons_zero, List.set_cons_succ]
          refine wpT_takeG (i := 4) (v := ?vqc4) rfl (by kernel_rfl) (fun _ _ _ h => h) rfl ?yqc4 ?rqc4
          case yqc4 => ((intro wz; go_simp); try with_reducible rfl)
          try simp only [Act.put, List.setIfInBounds_toArray, List.set_cons_zero, List.set_cons_succ]
          refine wpT_takeG (i := 5) (v := ?vqc5) rfl (by kernel_rfl) (fun _ _ _ h => h) rfl ?yqc5 ?rqc5
          case yqc5 => ((intro wz; go_simp); try with_reducible rfl)
          try simp only [Act.put, List.setIfInBounds_toArray, List.set_cons_zero, List.set_cons_succ]
          refine wpT_takeG (i := 6) (v := ?vqc6) rfl (by kernel_rfl) (fun _ _ _ h => h) rfl ?yqc6 ?rqc6
          case yqc6 => ((intro wz; go_simp); try with_reducible rfl)
          try simp only [Act.put, List.setIfInBounds_toArray, List.set_cons_zero, List.set_cons_succ]
          refine wpT_loadG (i := 7) (v := ?vqc7) rfl (by kernel_rfl) (fun _ _ _ h => h) rfl ?yqc7 HS2 ?rqc7
          case yqc7 => ((intro wz hSw; (try dsimp only at hSw); go_split_ands; go_simp); try with_reducible rfl)
          try simp only [Act.put, List.setIfInBounds_toArray, List.set_cons_zero, List.set_cons_succ]
          refine wpT_takeG (i := 8) (v := ?vqc8) rfl (by kernel_rfl) (fun _ _ _ h => h) rfl ?yqc8 ?rqc8
          case yqc8 => ((intro wz; go_simp); try with_reducible rfl)
          try simp only [Act.put, List.setIfInBounds_toArray, List.set_cons_zero, List.set_cons_succ]
          refine wpT_takeG (i := 9) (v := ?vqc9) rfl (by kernel_rfl) (fun _ _ _ h => h) rfl ?yqc9 ?rqc9
          case yqc9 => ((intro wz; go_simp); try with_reducible rfl)
          try simp only [Act.put, List.setIfInBounds_toArray, List.set_cons_zero, List.set_cons_succ]
          refine wpT_takeG (i := 10) (v := ?vqc10) rfl (by kernel_rfl) (fun _ _ _ h => h) rfl ?yqc10 ?rqc10
          case yqc10 => ((intro wz; go_simp); try with_reducible rfl)
          try simp only [Act.put, List.setIfInBounds_toArray, List.set_cons_zero, List.set_cons_succ]
          refine wpT_takeG (i := 11) (v := ?vqc11) rfl (by kernel_rfl) (fun _ _ _ h => h) rfl ?yqc11 ?rqc11
          case yqc11 => ((intro wz; go_simp); try with_reducible rfl)
          try simp only [Act.put, List.setIfInBounds_toArray, List.set_cons_zero, List.set_cons_succ]
          refine wpT_takeG (i := 12) (v := ?vqc12) rfl (by kernel_rfl) (fun _ _ _ h => h) rfl ?yqc12 ?rqc12
          case yqc12 => ((intro wz; go_simp); try with_reducible rfl)
          try simp only [Act.put, List.setIfInBounds_toArray, List.set_cons_zero, List.set_cons_succ]
          refine wpT_takeG (i := 13) (v := ?vqc13) rfl (by kernel_rfl) (fun _ _ _ h => h) rfl ?yqc13 ?rqc13
          case yqc13 => ((intro wz; go_simp); try with_reducible rfl)
          try simp only [Act.put, List.setIfInBounds_toArray, List.set_cons_zero, List.set_cons_succ]
          refine wpT_loadG (i := 14) (v := ?vqc14) rfl (by kernel_rfl) (fun _ _ _ h => h) rfl ?yqc14 HS2 ?rqc14
          case yqc14 => ((intro wz hSw; (try dsimp only at hSw); go_split_ands; go_simp); try with_reducible rfl)
          try simp only [Act.put, List.setIfInBounds_toArray, List.set_cons_zero, List.set_cons_succ]
          refine wpT_loadG (i := 15) (v := ?vqc15) rfl (by kernel_rfl) (fun _ _ _ h => h) rfl ?yqc15 HS2 ?rqc15
          case yqc15 => ((intro wz hSw; (try dsimp only at hSw); go_split_ands; go_simp); try with_reducible rfl)
          try simp only [Act.put, List.setIfInBounds_toArray, List.set_cons_zero, List.set_cons_succ]
          refine wpT_runG (i := 16) (by kernel_rfl) rfl rfl ?_
          go_simp
          refine (kind_c u w6.drew).mono ?_
          rintro r w7 ⟨rfl, hb7⟩
          have hb67 := (Below.refl _ w6).drew.trans hb7
          refine ⟨cond_keep (by decide) (HSW.out _ hb67), ?_⟩
          have P7 := Lib.hid (P6.out.later hb67)
          rw [← HCK.out]
          clear hb67 hb7 HS2
          refine wpT_takeG (i := 17) (v := ?vqd17) rfl (by kernel_rfl) (fun _ _ _ h => h) rfl ?yqd17 ?rqd17
          case yqd17 => ((intro wz; go_simp); try with_reducible rfl)
          try simp only [Act.put, List.setIfInBounds_toArray, List.set_cons_zero, List.set_cons_succ]
          refine wpT_takeG (i := 18) (v := ?vqd18) rfl (by kernel_rfl) (fun _ _ _ h => h) rfl ?yqd18 ?rqd18
          case yqd18 => ((intro wz; go_simp); try with_reducible rfl)
          try simp only [Act.put, List.setIfInBounds_toArray, List.set_cons_zero, List.set_cons_succ]
          refine wpT_done (by kernel_rfl) ?_ _
          go_wp2
          go_roundg (gk - 1)
          case measure => omega
          case rel => exact ⟨j + 1, by have := HJ.out; omega, by go_num, P7.out⟩
  · simp only [scene0]
    go_wp2
    go_ret
    refine ⟨rfl, ?_⟩
    exact B1.out.trans ((below1 _ _).mono B1.out.size)
end Bead
end Go.Proofs.Ytdmichkekipdpaa
