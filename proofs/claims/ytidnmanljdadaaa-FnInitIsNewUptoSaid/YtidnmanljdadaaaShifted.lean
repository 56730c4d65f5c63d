/- laws.shifted. -/
import Derived.Test.YtidnmanljdadaaaScripts
import Derived.Test.YtidnmanljdadaaaLast5
import Derived.Deep.DeepCutAuto
set_option linter.all false
namespace Go.Proofs.Ytidnmanljdadaaa
open Go.RowKit
namespace Bead
set_option maxRecDepth 100000

section
variable {P : Program} {ops : Array Oper} {Q : Exit → Act → World → Prop} {md : Region.Mode} {C : Nat → World → World → Prop}
/-- Number i is taken first: of what changes what it looks at, all waits for it. -/
theorem wpC_load (X : List Nat) (Y : World → Prop) {i : Nat} {oi : Oper} {v : Value} {fuel : Nat} {listed : Array Bool} {a : Act} {w : World} (hi' : ops.toList[i]? = some oi)
    (hc : (Region.noSelect ops && Region.free md ops listed i && (Region.ready md ops listed).contains i && shutB md ops listed && X.all (fun j => (marks md ops i ops.size).getD j false)) = true) (hC : ∀ w, C i w w)
    (hY : ∀ j, j ∉ X → ∀ w w', C j w w' → Y w → Y w')
    (hQ : ∀ c a w, Q (.panic c) (a.put oi.dst v) w → Q (.panic c) a w) (hy : Tells P ops Y oi v a) (hS : Y w)
    (h : wpC P md ops Q C fuel (listed.setIfInBounds i true) (a.put oi.dst v) w) : wpC P md ops Q C (fuel + 1) listed a w := by
  rw [Bool.and_eq_true] at hc
  refine wpC_tell Y hi' hc.1 hC (fun j hj => hY j (fun q => ?_)) hQ hy hS h
  rw [List.all_eq_true.1 hc.2 j q] at hj
  cases hj
end

set_option maxHeartbeats 1000000 in
theorem shift1_c {w : World} {b0 : Nat} {vp : Value} {P : List Nat} (x : Int) (hb : w.cell? ⟨b0, 0, none⟩ = some vp) (hP : Nats w vp P) (hl : P.length ≤ 1099511627776) :
    Calls Try.prog 37 #[.int .i64 x, .pointer (some ⟨b0, 0, none⟩)] w fun r w' => r = .returned (.int .i64 (placeAt P x)) ∧ w' = w := by
  have HP := Lib.hid hP
  obtain ⟨a, c, rfl⟩ := hP.form
  clear hP
  by_cases h0 : x < 0
  · have e : placeAt P x = -1 := by unfold placeAt; rw [if_neg (by omega)]
    have q : decide (x < 0) = true := by simpa using h0
    rw [e]
    clear e h0
    go_enter Try.func37, Try.ntmps37
    go_wp2
    go_ret
    exact ⟨rfl, rfl⟩
  · have q : decide (x < 0) = false := by simpa using h0
    by_cases h1 : x < P.length
    · obtain ⟨n, rfl⟩ : ∃ n : Nat, x = n := ⟨x.toNat, by omega⟩
      have hn : n < P.length := by omega
      have e : placeAt P n = ((P.getD n 0 : Nat) : Int) := by rw [placeAt_in (by omega) h1]; rfl
      have q1 : decide ((n : Int) ≥ (P.length : Nat)) = false := by simp; omega
      obtain ⟨y, hy⟩ : ∃ y, P[n]? = some y := ⟨_, List.getElem?_eq_getElem hn⟩
      obtain ⟨b1, o1, c1, hv, cell⟩ := HP.out.cells (by intro q; rw [q] at hn; simp at hn)
      simp only [Value.slice.injEq] at hv
      obtain ⟨rfl, hz, rfl⟩ := hv
      have e1 := cell n y hy
      have e2 : P.getD n 0 = y := by rw [List.getD_eq_getElem?_getD, hy]; rfl
      rw [e, e2]
      clear e e2 cell hy hz h0 h1
      go_enter Try.func37, Try.ntmps37
      go_wp2
      go_ret
      exact ⟨rfl, rfl⟩
    · have e : placeAt P x = -1 := by unfold placeAt; rw [if_neg (by omega)]
      have q1 : decide (x ≥ (P.length : Nat)) = true := by simp; omega
      rw [e]
      clear e h0 h1
      go_enter Try.func37, Try.ntmps37
      go_wp2
      go_ret
      exact ⟨rfl, rfl⟩

/-- The box of the places. -/
def BoxAt (b0 : Nat) (vp : Value) (P : List Nat) (w : World) : Prop := w.cell? ⟨b0, 0, none⟩ = some vp ∧ Nats w vp P
/-- What the region's operations change: the four stores. -/
def shC (g : Nat) (j : Nat) (w w' : World) : Prop := (∃ f v, (j, f) ∈ [(17, 1), (19, 2), (21, 3), (23, 4)] ∧ w' = w.setCell ⟨g, f, none⟩ v) ∨ w' = w
theorem sh_same {g i : Nat} : ∀ w, shC g i w w := fun _ => .inr rfl
theorem sh_store {g j : Nat} {w : World} (f : Nat) (v : Value) (h : (j, f) ∈ [(17, 1), (19, 2), (21, 3), (23, 4)]) : shC g j w (w.setCell ⟨g, f, none⟩ v) := .inl ⟨f, v, h, rfl⟩
theorem sh_cell {g : Nat} {u : Value} (f : Nat) (X : List Nat) (hX : ∀ p ∈ [((17 : Nat), (1 : Nat)), (19, 2), (21, 3), (23, 4)], p.2 = f → p.1 ∈ X) : ∀ j, j ∉ X → ∀ w w', shC g j w w' → w.cell? ⟨g, f, none⟩ = some u → w'.cell? ⟨g, f, none⟩ = some u := by
  rintro j hj w w' (⟨f', v, h, rfl⟩ | rfl) hc
  · have hne : f' ≠ f := fun q => hj (hX (j, f') h q)
    refine (World.cell?_setCell_other _ _ _ _ ?_).trans hc
    intro q
    simp at q
  · exact hc
theorem sh_box {g b0 : Nat} {vp : Value} {P : List Nat} (hb : g ≠ b0) (hP : P ≠ [] → ∀ k, vp.ownBlock = some k → k ≠ g) : ∀ j, j ∉ ([] : List Nat) → ∀ w w', shC g j w w' → BoxAt b0 vp P w → BoxAt b0 vp P w' := by
  rintro j _ w w' (⟨f', v, h, rfl⟩ | rfl) ⟨h1, h2⟩
  · have hk : Keeps (fun k => k = g) w (w.setCell ⟨g, f', none⟩ v) := (Keeps.refl (fun k => k = g) w).setCell (p := ⟨g, f', none⟩) (fun _ => rfl) v
    refine ⟨hk.cell h1 (fun q => hb q.symm), ?_⟩
    by_cases hne : P = []
    · subst hne
      obtain ⟨a, cap, rfl, _⟩ := h2
      exact ⟨a, cap, rfl, fun q => absurd rfl q⟩
    · exact Sl.keep h2 hk (hP hne)
  · exact ⟨h1, h2⟩

theorem sh_end {w : World} {g : Nat} {t : TypeId} {x0 x1 x2 x3 x4 x5 x6 x7 : Value} (h : w.heap[g]? = some (.cells #[x0, x1, x2, x3, x4, x5, x6, x7] t (0, 0))) (a b c d : Value) :
    ((((w.setCell ⟨g, 1, none⟩ a).setCell ⟨g, 2, none⟩ b).setCell ⟨g, 3, none⟩ c).setCell ⟨g, 4, none⟩ d).heap[g]? = some (.cells #[x0, a, b, c, d, x5, x6, x7] t (0, 0)) ∧
    Keeps (fun k => k = g) w ((((w.setCell ⟨g, 1, none⟩ a).setCell ⟨g, 2, none⟩ b).setCell ⟨g, 3, none⟩ c).setCell ⟨g, 4, none⟩ d) := by
  have st : ∀ (x : World) (o : Nat) (v : Value), Keeps (fun k => k = g) w x → Keeps (fun k => k = g) w (x.setCell ⟨g, o, none⟩ v) := fun x o v h => h.setCell (p := ⟨g, o, none⟩) (fun _ => rfl) v
  refine ⟨?_, st _ 4 d (st _ 3 c (st _ 2 b (st _ 1 a (Keeps.refl _ _))))⟩
  have h1 := heap_set (o := 1) (v := a) h
  have h2 := heap_set (o := 2) (v := b) h1
  have h3 := heap_set (o := 3) (v := c) h2
  have h4 := heap_set (o := 4) (v := d) h3
  rw [h4]; rfl

structure ShAt (w wr : World) (cs : List Cl) (P : List Nat) (vp : Value) (j : Nat) (v : Value) : Prop where
  own : wr.ownsRow (w.heap.size + 1) 32 8 v j (((cs.take j).map (shiftC P)).flatMap Cl.cells)
  below : Below w.heap.size w wr
  cell : wr.cell? ⟨w.heap.size, 0, none⟩ = some vp
theorem ShAt.next {w wr w1 w2 : World} {cs : List Cl} {P : List Nat} {vp : Value} {j : Nat} {v v' : Value} {c : Cl} {o' : Obj} (h : ShAt w wr cs P vp j v) (hc : cs[j]? = some c) (hb : Below wr.heap.size wr w1)
    (hown : w2.ownsRow (w.heap.size + 1) 32 8 v' (j + 1) (((cs.take j).map (shiftC P)).flatMap Cl.cells ++ (shiftC P c).cells)) (hg : (w1.alloc o').grownBy w2 v.ownBlock) : ShAt w w2 cs P vp (j + 1) v' := by
  obtain ⟨hj, e⟩ := List.getElem?_eq_some_iff.1 hc
  have ho1 := own_below h.own hb
  have hb1 : Below w.heap.size w w1 := h.below.trans (hb.mono h.below.size)
  have kg : Keeps (fun k => v.ownBlock = some k) w1 w2 := ((Keeps.refl _ w1).alloc o').grown hg (fun k q _ => q)
  refine ⟨?_, below_grown (hb1.alloc hb1.size o') (ho1.alloc o') (Nat.le_succ _) hg, kg.cell ((hb.cell (p := ⟨w.heap.size, 0, none⟩) (World.block_lt_of_cell? wr _ h.cell)).trans h.cell) (fun q => by have h1 : w.heap.size + 1 ≤ w.heap.size := (h.own.lt _ q).1; omega)⟩
  rw [List.take_succ_eq_append_getElem hj, List.map_append, cells_app, e]
  simpa using hown
/-- A call in memory. -/
def shCells (P : List Nat) (c : Cl) : Array Value := #[.int .i64 c.op, .int .i64 (placeAt P c.list), .int .i64 (placeAt P c.other), .int .i64 (placeAt P c.elem), .int .i64 (placeAt P c.mark), .int .i64 c.v.kind, .int .i64 c.v.n, .string c.v.s]

set_option maxHeartbeats 16000000 in
theorem shifted_c {w : World} {vc vp : Value} {cs : List Cl} {P : List Nat} (s : Scr w vc cs) (hP : Nats w vp P) (hlP : P.length ≤ 1099511627776) (hn : cs.length ≤ 1099511627776) :
    Calls Try.prog 10 #[vc, vp] w fun r w' => ∃ v', r = .returned v' ∧ w'.ownsRow w.heap.size 32 8 v' cs.length ((cs.map (shiftC P)).flatMap Cl.cells) ∧ Below w.heap.size w w' := by
  have S := Lib.hid s; have HP := Lib.hid hP; have HPL := hlP
  obtain ⟨y1, y2, rfl⟩ := s.form
  obtain ⟨p1, p2, rfl⟩ := hP.form
  have HPB : Hid (∀ k, (Value.slice p1 P.length p2).ownBlock = some k → P ≠ [] → k < w.heap.size) := by
    intro k hk hne
    obtain ⟨b1, o1, c1, hv, cell⟩ := hP.cells hne
    rw [hv] at hk
    simp only [Value.ownBlock, Option.some.injEq] at hk
    subst hk
    obtain ⟨x, hx⟩ : ∃ x, P[0]? = some x := ⟨_, List.getElem?_eq_getElem (by have := List.length_pos_iff.2 hne; omega)⟩
    exact World.block_lt_of_cell? w _ (cell 0 x hx)
  clear s hP
  go_enter Try.func10, Try.ntmps10
  go_wp2_with fail
  go_loopg [5, 12] cs.length (fun n o k wr => ∃ j, j + n = cs.length ∧ k = .int .i64 j ∧ ShAt w wr cs P (.slice p1 P.length p2) j o)
  case atStart => exact ⟨0, by omega, rfl, by simpa using World.ownsRow_nil _ _ _ _, below1 w _, cell_of_heap (heap_alloc_new w _) rfl⟩
  case round =>
    obtain ⟨j, hj, rfl, hA⟩ := hrel
    have hc1 := hA.cell
    by_cases hk0 : gk = 0
    · subst hk0
      obtain rfl : j = cs.length := by omega
      have F : Hid (wr.ownsRow w.heap.size 32 8 u5 cs.length ((cs.map (shiftC P)).flatMap Cl.cells) ∧ Below w.heap.size w wr) := by
        have own := hA.own
        rw [List.take_length] at own
        exact ⟨own_base own (Nat.le_succ _), hA.below⟩
      clear hA hj hc1
      go_wp2
      go_ret
      exact ⟨_, rfl, F.out.1, F.out.2⟩
    · have hjl : j < cs.length := by omega
      obtain ⟨c, hget⟩ : ∃ c, cs[j]? = some c := ⟨_, List.getElem?_eq_getElem hjl⟩
      have hne : cs ≠ [] := by intro q; subst q; simp at hjl
      obtain ⟨b, off, cp, hv, hcell⟩ := S.out.sl.elem Cl.cells_length (by decide) hne
      simp only [Value.slice.injEq] at hv
      obtain ⟨rfl, _, rfl⟩ := hv
      have hbw : b < w.heap.size := World.block_lt_of_cell? w ⟨b, off + (j * 8 + 0), none⟩ (hcell j c hget 0 _ rfl)
      have cc : ∀ t y, c.cells[t]? = some y → wr.cell? ⟨b, off + j * 8 + t, none⟩ = some y := fun t y hy => by
        rw [hA.below.cell (p := ⟨b, off + j * 8 + t, none⟩) hbw, Nat.add_assoc]; exact hcell j c hget t y hy
      have e0 := cc 0 _ rfl; have e1 := cc 1 _ rfl; have e2 := cc 2 _ rfl; have e3 := cc 3 _ rfl; have e4 := cc 4 _ rfl; have e5 := cc 5 _ rfl; have e6 := cc 6 _ rfl; have e7 := cc 7 _ rfl
      simp only [Nat.add_zero] at e0
      have HA := Lib.hid hA; have HG := Lib.hid hget; have HJ := Lib.hid hj
      have szr := hA.below.size
      obtain ⟨x1, x2, rfl⟩ := own_len hA.own
      clear hA hget hj cc hcell hne
      go_wp2_with fail
      go_cut [] (fun wz => wz.heap[wr.heap.size]? = some (.cells (shCells P c) 32 (0, 0)) ∧ Below wr.heap.size wr wz)
      case first =>
        clear e0 e1 e2 e3 e4 e5 e6 e7
        have HW : Hid (wr.cell? ⟨w.heap.size, 0, none⟩ = some (.slice p1 P.length p2)) := hc1
        refine wp_region_C (shC wr.heap.size) run_mixed ?_
        simp only [List.size_toArray, List.length_cons, List.length_nil]
        have G0 : Hid ((wr.alloc (.cells #[.int .i64 c.op, .int .i64 c.list, .int .i64 c.other, .int .i64 c.elem, .int .i64 c.mark, .int .i64 c.v.kind, .int .i64 c.v.n, .string c.v.s] 32)).drew.heap[wr.heap.size]? = some (.cells #[.int .i64 c.op, .int .i64 c.list, .int .i64 c.other, .int .i64 c.elem, .int .i64 c.mark, .int .i64 c.v.kind, .int .i64 c.v.n, .string c.v.s] 32 (0, 0))) := heap_alloc_new wr _
        have K0 : Hid (Below wr.heap.size wr (wr.alloc (.cells #[.int .i64 c.op, .int .i64 c.list, .int .i64 c.other, .int .i64 c.elem, .int .i64 c.mark, .int .i64 c.v.kind, .int .i64 c.v.n, .string c.v.s] 32)).drew) := (below1 wr _).drew
        have hltw : w.heap.size < wr.heap.size := World.block_lt_of_cell? wr _ hc1
        have hgb : wr.heap.size ≠ w.heap.size := by omega
        have CB0 : BoxAt w.heap.size (.slice p1 P.length p2) P wr := ⟨hc1, HP.out.later HA.out.below⟩
        have CB : BoxAt w.heap.size (.slice p1 P.length p2) P (wr.alloc (.cells #[.int .i64 c.op, .int .i64 c.list, .int .i64 c.other, .int .i64 c.elem, .int .i64 c.mark, .int .i64 c.v.kind, .int .i64 c.v.n, .string c.v.s] 32)).drew := ⟨(K0.out.cell (p := ⟨w.heap.size, 0, none⟩) hltw).trans hc1, CB0.2.later K0.out⟩
        clear hc1 CB0
        generalize (wr.alloc (.cells #[.int .i64 c.op, .int .i64 c.list, .int .i64 c.other, .int .i64 c.elem, .int .i64 c.mark, .int .i64 c.v.kind, .int .i64 c.v.n, .string c.v.s] 32)).drew = wk at *
        have C1 := cell_of_heap (o := 1) G0.out rfl
        have C2 := cell_of_heap (o := 2) G0.out rfl
        have C3 := cell_of_heap (o := 3) G0.out rfl
        have C4 := cell_of_heap (o := 4) G0.out rfl
        have f1 : wk.frozen? ⟨wr.heap.size, 1, none⟩ = false := free_of_heap G0.out
        have f2 : wk.frozen? ⟨wr.heap.size, 2, none⟩ = false := free_of_heap G0.out
        have f3 : wk.frozen? ⟨wr.heap.size, 3, none⟩ = false := free_of_heap G0.out
        have f4 : wk.frozen? ⟨wr.heap.size, 4, none⟩ = false := free_of_heap G0.out
        have HK : ∀ wz, Keeps (fun k => k = wr.heap.size) wk wz → Below wr.heap.size wr wz := fun wz hk => K0.out.trans (hk.below (fun k hk _ q => by omega) K0.out.size)
        have hgP : P ≠ [] → ∀ k, (Value.slice p1 P.length p2).ownBlock = some k → k ≠ wr.heap.size := fun hne k hk => by have := HPB.out k hk hne; omega
        clear HPB
        refine wpC_take (i := 0) (v := ?v0) rfl (by kernel_rfl) sh_same (fun _ _ _ h => h) rfl ?y0 ?r0
        case y0 => ((intro wz; go_simp); try with_reducible rfl)
        try simp only [Act.put, List.setIfInBounds_toArray, List.set_cons_zero, List.set_cons_succ]
        refine wpC_take (i := 1) (v := ?v1) rfl (by kernel_rfl) sh_same (fun _ _ _ h => h) rfl ?y1 ?r1
        case y1 => ((intro wz; go_simp); try with_reducible rfl)
        try simp only [Act.put, List.setIfInBounds_toArray, List.set_cons_zero, List.set_cons_succ]
        refine wpC_load [17] (fun W => W.cell? ⟨wr.heap.size, 1, none⟩ = some (.int .i64 c.list)) (i := 2) (v := ?v2) rfl (by kernel_rfl) sh_same (sh_cell 1 [17] (by decide)) (fun _ _ _ h => h) ⟨rfl, fun wz hSw => .inl ?y2⟩ C1 ?r2
        case y2 => ((try dsimp only at hSw); go_simp; try with_reducible rfl)
        try simp only [Act.put, List.setIfInBounds_toArray, List.set_cons_zero, List.set_cons_succ]
        refine wpC_take (i := 4) (v := ?v4) rfl (by kernel_rfl) sh_same (fun _ _ _ h => h) rfl ?y4 ?r4
        case y4 => ((intro wz; go_simp); try with_reducible rfl)
        try simp only [Act.put, List.setIfInBounds_toArray, List.set_cons_zero, List.set_cons_succ]
        refine wpC_take (i := 5) (v := ?v5) rfl (by kernel_rfl) sh_same (fun _ _ _ h => h) rfl ?y5 ?r5
        case y5 => ((intro wz; go_simp); try with_reducible rfl)
        try simp only [Act.put, List.setIfInBounds_toArray, List.set_cons_zero, List.set_cons_succ]
        refine wpC_load [19] (fun W => W.cell? ⟨wr.heap.size, 2, none⟩ = some (.int .i64 c.other)) (i := 6) (v := ?v6) rfl (by kernel_rfl) sh_same (sh_cell 2 [19] (by decide)) (fun _ _ _ h => h) ⟨rfl, fun wz hSw => .inl ?y6⟩ C2 ?r6
        case y6 => ((try dsimp only at hSw); go_simp; try with_reducible rfl)
        try simp only [Act.put, List.setIfInBounds_toArray, List.set_cons_zero, List.set_cons_succ]
        refine wpC_take (i := 8) (v := ?v8) rfl (by kernel_rfl) sh_same (fun _ _ _ h => h) rfl ?y8 ?r8
        case y8 => ((intro wz; go_simp); try with_reducible rfl)
        try simp only [Act.put, List.setIfInBounds_toArray, List.set_cons_zero, List.set_cons_succ]
        refine wpC_take (i := 9) (v := ?v9) rfl (by kernel_rfl) sh_same (fun _ _ _ h => h) rfl ?y9 ?r9
        case y9 => ((intro wz; go_simp); try with_reducible rfl)
        try simp only [Act.put, List.setIfInBounds_toArray, List.set_cons_zero, List.set_cons_succ]
        refine wpC_load [21] (fun W => W.cell? ⟨wr.heap.size, 3, none⟩ = some (.int .i64 c.elem)) (i := 10) (v := ?v10) rfl (by kernel_rfl) sh_same (sh_cell 3 [21] (by decide)) (fun _ _ _ h => h) ⟨rfl, fun wz hSw => .inl ?y10⟩ C3 ?r10
        case y10 => ((try dsimp only at hSw); go_simp; try with_reducible rfl)
        try simp only [Act.put, List.setIfInBounds_toArray, List.set_cons_zero, List.set_cons_succ]
        refine wpC_take (i := 12) (v := ?v12) rfl (by kernel_rfl) sh_same (fun _ _ _ h => h) rfl ?y12 ?r12
        case y12 => ((intro wz; go_simp); try with_reducible rfl)
        try simp only [Act.put, List.setIfInBounds_toArray, List.set_cons_zero, List.set_cons_succ]
        refine wpC_take (i := 13) (v := ?v13) rfl (by kernel_rfl) sh_same (fun _ _ _ h => h) rfl ?y13 ?r13
        case y13 => ((intro wz; go_simp); try with_reducible rfl)
        try simp only [Act.put, List.setIfInBounds_toArray, List.set_cons_zero, List.set_cons_succ]
        refine wpC_load [23] (fun W => W.cell? ⟨wr.heap.size, 4, none⟩ = some (.int .i64 c.mark)) (i := 14) (v := ?v14) rfl (by kernel_rfl) sh_same (sh_cell 4 [23] (by decide)) (fun _ _ _ h => h) ⟨rfl, fun wz hSw => .inl ?y14⟩ C4 ?r14
        case y14 => ((try dsimp only at hSw); go_simp; try with_reducible rfl)
        try simp only [Act.put, List.setIfInBounds_toArray, List.set_cons_zero, List.set_cons_succ]
        refine wpC_load [] (BoxAt w.heap.size (.slice p1 P.length p2) P) (i := 3) (v := .int .i64 (placeAt P c.list)) rfl (by kernel_rfl) sh_same (sh_box hgb hgP) (fun _ _ _ h => h) ⟨rfl, fun wz hSw => .inr ⟨37, #[.int .i64 c.list, .pointer (some ⟨w.heap.size, 0, none⟩)], ?y3, shift1_c c.list hSw.1 hSw.2 HPL⟩⟩ CB ?r3
        case y3 => (go_simp; try with_reducible rfl)
        try simp only [Act.put, List.setIfInBounds_toArray, List.set_cons_zero, List.set_cons_succ]
        refine wpC_load [] (BoxAt w.heap.size (.slice p1 P.length p2) P) (i := 7) (v := .int .i64 (placeAt P c.other)) rfl (by kernel_rfl) sh_same (sh_box hgb hgP) (fun _ _ _ h => h) ⟨rfl, fun wz hSw => .inr ⟨37, #[.int .i64 c.other, .pointer (some ⟨w.heap.size, 0, none⟩)], ?y7, shift1_c c.other hSw.1 hSw.2 HPL⟩⟩ CB ?r7
        case y7 => (go_simp; try with_reducible rfl)
        try simp only [Act.put, List.setIfInBounds_toArray, List.set_cons_zero, List.set_cons_succ]
        refine wpC_load [] (BoxAt w.heap.size (.slice p1 P.length p2) P) (i := 11) (v := .int .i64 (placeAt P c.elem)) rfl (by kernel_rfl) sh_same (sh_box hgb hgP) (fun _ _ _ h => h) ⟨rfl, fun wz hSw => .inr ⟨37, #[.int .i64 c.elem, .pointer (some ⟨w.heap.size, 0, none⟩)], ?y11, shift1_c c.elem hSw.1 hSw.2 HPL⟩⟩ CB ?r11
        case y11 => (go_simp; try with_reducible rfl)
        try simp only [Act.put, List.setIfInBounds_toArray, List.set_cons_zero, List.set_cons_succ]
        refine wpC_load [] (BoxAt w.heap.size (.slice p1 P.length p2) P) (i := 15) (v := .int .i64 (placeAt P c.mark)) rfl (by kernel_rfl) sh_same (sh_box hgb hgP) (fun _ _ _ h => h) ⟨rfl, fun wz hSw => .inr ⟨37, #[.int .i64 c.mark, .pointer (some ⟨w.heap.size, 0, none⟩)], ?y15, shift1_c c.mark hSw.1 hSw.2 HPL⟩⟩ CB ?r15
        case y15 => (go_simp; try with_reducible rfl)
        try simp only [Act.put, List.setIfInBounds_toArray, List.set_cons_zero, List.set_cons_succ]
        refine wpC_take (i := 16) (v := ?v16) rfl (by kernel_rfl) sh_same (fun _ _ _ h => h) rfl ?y16 ?r16
        case y16 => ((intro wz; go_simp); try with_reducible rfl)
        try simp only [Act.put, List.setIfInBounds_toArray, List.set_cons_zero, List.set_cons_succ]
        refine wpC_one (rs := [17]) (by kernel_rfl) (by simp) ?_
        intro i hi
        simp only [List.mem_cons, List.not_mem_nil, or_false] at hi
        subst hi
        refine wpOp_is rfl rfl ?_
        go_simp
        refine ⟨sh_store 1 _ (by decide), ?_⟩
        refine wpC_take (i := 18) (v := ?v18) rfl (by kernel_rfl) sh_same (fun _ _ _ h => h) rfl ?y18 ?r18
        case y18 => ((intro wz; go_simp); try with_reducible rfl)
        try simp only [Act.put, List.setIfInBounds_toArray, List.set_cons_zero, List.set_cons_succ]
        refine wpC_one (rs := [19]) (by kernel_rfl) (by simp) ?_
        intro i hi
        simp only [List.mem_cons, List.not_mem_nil, or_false] at hi
        subst hi
        refine wpOp_is rfl rfl ?_
        go_simp
        refine ⟨sh_store 2 _ (by decide), ?_⟩
        refine wpC_take (i := 20) (v := ?v20) rfl (by kernel_rfl) sh_same (fun _ _ _ h => h) rfl ?y20 ?r20
        case y20 => ((intro wz; go_simp); try with_reducible rfl)
        try simp only [Act.put, List.setIfInBounds_toArray, List.set_cons_zero, List.set_cons_succ]
        refine wpC_one (rs := [21]) (by kernel_rfl) (by simp) ?_
        intro i hi
        simp only [List.mem_cons, List.not_mem_nil, or_false] at hi
        subst hi
        refine wpOp_is rfl rfl ?_
        go_simp
        refine ⟨sh_store 3 _ (by decide), ?_⟩
        refine wpC_take (i := 22) (v := ?v22) rfl (by kernel_rfl) sh_same (fun _ _ _ h => h) rfl ?y22 ?r22
        case y22 => ((intro wz; go_simp); try with_reducible rfl)
        try simp only [Act.put, List.setIfInBounds_toArray, List.set_cons_zero, List.set_cons_succ]
        refine wpC_one (rs := [23]) (by kernel_rfl) (by simp) ?_
        intro i hi
        simp only [List.mem_cons, List.not_mem_nil, or_false] at hi
        subst hi
        refine wpOp_is rfl rfl ?_
        go_simp
        refine ⟨sh_store 4 _ (by decide), ?_⟩
        refine wpC_done (by kernel_rfl) ?_ _
        go_wp2
        go_meet
        case rel => exact ⟨(sh_end G0.out _ _ _ _).1, HK _ (sh_end G0.out _ _ _ _).2⟩
      case rest =>
        obtain ⟨G1, hbz⟩ := hcut
        unfold shCells at G1
        have c0 := cell_of_heap (o := 0) G1 rfl
        have c1 := cell_of_heap (o := 1) G1 rfl
        have c2 := cell_of_heap (o := 2) G1 rfl
        have c3 := cell_of_heap (o := 3) G1 rfl
        have c4 := cell_of_heap (o := 4) G1 rfl
        have c5 := cell_of_heap (o := 5) G1 rfl
        have c6 := cell_of_heap (o := 6) G1 rfl
        have c7 := cell_of_heap (o := 7) G1 rfl
        have HO := Lib.hid (own_below HA.out.own hbz)
        have HB := Lib.hid hbz
        have szz := hbz.size
        clear G1 hbz e0 e1 e2 e3 e4 e5 e6 e7 hc1
        go_wp2_with (at_builtin; refine wpList_app2 rfl (.tmp 36) (.tmp 38) 22 rfl (w.heap.size + 1) 32 _ 8 72 Try.underlying22 Try.infoICall rfl (by decide) _ _ _ rfl (HO.out.alloc _) _ 1 (shiftC P c).cells rfl (sl_at' _ _ _ _ _ _ (by simp)) rfl (by simp [Cl.cells, Value.oneCell']) (.inr (.inr (by decide))) (by omega) (by decide) (by simp; omega) ?_; intro v' w3 hown hg hn; have N2 := Lib.hid (HA.out.next HG.out HB.out hown hg); clear hown hg hn)
        go_roundg (gk - 1)
        case measure => omega
        case rel => exact ⟨j + 1, by have := HJ.out; omega, by go_num, N2.out⟩
end Bead
end Go.Proofs.Ytidnmanljdadaaa
