/- FnValuesAreCarried returns true: a script of at most 2^40 calls, a table of at most 2^40 values. -/
import Derived.Test.YtidnmanljdadaaaScripts
import Derived.Test.YtidnmanljdadaaaLaws3
import Derived.Test.YtidnmanljdadaaaCarry
set_option linter.all false
namespace Go.Proofs.Ytidnmanljdadaaa
open Go.RowKit
namespace Bead
set_option maxRecDepth 100000

/-- The number of a call's value in the table. -/
def modN (K : Nat) (c : Cl) : Nat := (wrap64 ((IntKind.u64.wrap c.v.n).tmod (K : Int))).toNat
theorem modN_spec {K : Nat} (hk : 0 < K) (h2 : K ≤ 1099511627776) (c : Cl) : modN K c < K ∧ wrap64 ((IntKind.u64.wrap c.v.n).tmod (K : Int)) = ((modN K c : Nat) : Int) := by
  obtain ⟨i, h1, h3⟩ := umod c.v.n hk h2
  unfold modN
  rw [h3]
  exact ⟨by simpa using h1, by simp⟩
/-- A value is stored in a call. -/
def trio (w : World) (b o : Nat) (v : Vl) : World := ((w.setCell ⟨b, o, none⟩ (.int .i64 v.kind)).setCell ⟨b, o + 1, none⟩ (.int .i64 v.n)).setCell ⟨b, o + 2, none⟩ (.string v.s)
theorem trio_keeps {S : Nat → Prop} {w0 w : World} {b o : Nat} {v : Vl} (h : Keeps S w0 w) (hb : S b) : Keeps S w0 (trio w b o v) :=
  ((h.setCell (p := ⟨b, o, none⟩) (fun _ => hb) _).setCell (p := ⟨b, o + 1, none⟩) (fun _ => hb) _).setCell (p := ⟨b, o + 2, none⟩) (fun _ => hb) _
theorem own_trio {w : World} {B b n cap : Nat} {cs : List Cl} (h : w.ownsRow B 32 8 (.slice (some ⟨b, 0, none⟩) n cap) n (cs.flatMap Cl.cells)) {j : Nat} {c : Cl} (v : Vl) (hc : cs[j]? = some c) :
    (trio w b (j * 8 + 5) v).ownsRow B 32 8 (.slice (some ⟨b, 0, none⟩) n cap) n ((cs.set j { c with v := v }).flatMap Cl.cells) := by
  have hj := (List.getElem?_eq_some_iff.1 hc).1
  have hg : ∀ c : Cl, (cs.set j c)[j]? = some c := fun c => by rw [List.getElem?_set_self hj]
  obtain ⟨o0, l0, t0, e0, m0, k0, n0, s0⟩ := c
  obtain ⟨k1, n1, s1⟩ := v
  have h6 := own_set1 (t := 5) (c' := ⟨o0, l0, t0, e0, m0, k1, n0, s0⟩) (v := .int .i64 k1) h hc (by decide) rfl
  have h7 := own_set1 (t := 6) (c' := ⟨o0, l0, t0, e0, m0, k1, n1, s0⟩) (v := .int .i64 n1) h6 (hg _) (by decide) rfl
  rw [List.set_set] at h7
  have h8 := own_set1 (t := 7) (c' := ⟨o0, l0, t0, e0, m0, k1, n1, s1⟩) (v := .string s1) h7 (hg _) (by decide) rfl
  rw [List.set_set] at h8
  exact h8

/-- The two copies of the script, so far. -/
structure CyAt (w1 w2 w3 wr : World) (f : Cl → Nat) (T : List Vl) (cs : List Cl) (va vb : Value) (j : Nat) : Prop where
  a : wr.ownsRow w1.heap.size 32 8 va cs.length ((chg (numC f) cs j).flatMap Cl.cells)
  b : wr.ownsRow w2.heap.size 32 8 vb cs.length ((chg (tabC T f) cs j).flatMap Cl.cells)
  alt : ∀ k, va.ownBlock = some k → k < w2.heap.size
  keeps : Keeps (fun k => va.ownBlock = some k ∨ vb.ownBlock = some k) w3 wr
theorem CyAt.next {w1 w2 w3 wr : World} {f : Cl → Nat} {T : List Vl} {cs : List Cl} {ba bb ca cb j : Nat} (h : CyAt w1 w2 w3 wr f T cs (.slice (some ⟨ba, 0, none⟩) cs.length ca) (.slice (some ⟨bb, 0, none⟩) cs.length cb) j) (hj : j < cs.length) :
    CyAt w1 w2 w3 (trio (trio wr ba (j * 8 + 5) ⟨1, (f cs[j] : Nat), ByteArray.empty⟩) bb (j * 8 + 5) (T.getD (f cs[j]) Vl.zero)) f T cs (.slice (some ⟨ba, 0, none⟩) cs.length ca) (.slice (some ⟨bb, 0, none⟩) cs.length cb) (j + 1) := by
  have h1 := h.alt ba rfl
  have h2 : w2.heap.size ≤ bb := (h.b.lt bb rfl).1
  have hne : ba ≠ bb := by omega
  refine ⟨?_, ?_, h.alt, trio_keeps (trio_keeps h.keeps (.inl rfl)) (.inr rfl)⟩
  · rw [chg_succ hj]
    exact own_keeps (own_trio h.a _ (chg_get hj)) (trio_keeps (S := fun k => k = bb) (Keeps.refl _ _) rfl) (fun k q r => by simp [Value.ownBlock] at q; omega)
  · rw [chg_succ hj]
    exact own_trio (own_keeps h.b (trio_keeps (S := fun k => k = ba) (Keeps.refl _ _) rfl) (fun k q r => by simp [Value.ownBlock] at q; omega)) _ (chg_get hj)

theorem trio_heap {w : World} {g : Nat} {a b c : Value} {t : TypeId} (h : w.heap[g]? = some (.cells #[a, b, c] t (0, 0))) (v : Vl) : (trio w g 0 v).heap[g]? = some (.cells #[.int .i64 v.kind, .int .i64 v.n, .string v.s] t (0, 0)) := by
  have h1 := heap_set (o := 0) (v := .int .i64 v.kind) h
  have h2 := heap_set (o := 1) (v := .int .i64 v.n) h1
  have h3 := heap_set (o := 2) (v := .string v.s) h2
  unfold trio
  rw [h3]; rfl
/-- A value that is made and read again. -/
def cLoose (v : Vl) : Cl := ⟨2, 0, 0, 0, 0, v⟩
def cGet0 : Cl := ⟨20, 0, 0, 0, 0, Vl.zero⟩
theorem loose_ok (v : Vl) : okFrom 500 Md.init [cLoose v, cGet0] = true := by
  simp [okFrom, Md.permitted, cLoose, cGet0, usesList, usesOther, usesElem, usesMark, makes, Md.step, Md.look, Md.init, Md.grow, Md.make, Md.answer, Md.give, Md.stale, Md.elem, upd]
theorem loose_ans (v : Vl) : (ansFrom Md.init [cLoose v, cGet0])[1]? = some ⟨-1, 0, canon v⟩ := by
  simp [ansFrom, cLoose, cGet0, Md.step, Md.look, Md.init, Md.grow, Md.make, Md.answer, Md.give, upd]
set_option maxHeartbeats 16000000 in
theorem carry_c {w : World} {v0 v1 : Value} {cs : List Cl} {T : List Vl} (s : Scr w v0 cs) (hT : Sl w v1 T.length (T.flatMap Vl.cells)) (hTok : ∀ v ∈ T, v.ok) (hn : cs.length ≤ 1099511627776) (hm : T.length ≤ 1099511627776) :
    Calls Try.prog 4 #[v0, v1] w fun r w' => r = .returned (.bool true) ∧ Below w.heap.size w w' := by
  have DF := Lib.hid (defined_c s.sl hn)
  have S := Lib.hid s; have ST := Lib.hid hT; have TOK := Lib.hid hTok
  obtain ⟨a1, a2, rfl⟩ := s.form
  obtain ⟨t1, t2, rfl, _⟩ := hT
  clear s hTok
  go_enter Try.func4, Try.ntmps4
  go_wp2_with fail
  refine DF.out.mono ?_
  rintro r w1 ⟨hb1, hcase⟩
  have B1 := Lib.hid hb1
  clear hb1 DF
  rcases hcase with ⟨hok, ra, ro, rfl, rra, rro⟩ | ⟨hok, rfl⟩
  case inr =>
    clear hok
    go_wp2
    go_ret
    exact ⟨rfl, B1.out⟩
  case inl =>
    have OK := Lib.hid hok; have RO := Lib.hid rro
    clear hok rra rro
    by_cases hT0 : T.length = 0
    · have q0 : ((T.length : Int) == 0) = true := by rw [hT0]; rfl
      clear hT0
      go_wp2
      go_ret
      exact ⟨rfl, B1.out⟩
    · have q0 : ((T.length : Int) == 0) = false := by simp; intro q; exact hT0 (by rw [q]; rfl)
      have hTp : 0 < T.length := by omega
      have CL := Lib.hid (clone_c (S.out.sl.later B1.out) S.out.fair hn)
      clear hT0
      go_wp2_with fail
      refine CL.out.mono ?_
      rintro r w2 ⟨va, rfl, rva, hb2⟩
      have B2 := Lib.hid (B1.out.trans (hb2.mono B1.out.size))
      have RVA := Lib.hid rva
      have RO2 := Lib.hid (own_below RO.out hb2)
      have CL2 := Lib.hid (clone_c (S.out.sl.later B2.out) S.out.fair hn)
      clear hb2 rva CL
      go_wp2_with fail
      refine CL2.out.mono ?_
      rintro r w3 ⟨vb, rfl, rvb, hb3⟩
      have B3 := Lib.hid (B2.out.trans (hb3.mono B2.out.size))
      have RO3 := Lib.hid (own_below RO2.out hb3)
      have C0 : Hid (CyAt w1 w2 w3 w3 (modN T.length) T cs va vb 0) := ⟨by rw [chg_zero]; exact own_below RVA.out hb3, by rw [chg_zero]; exact rvb, fun k q => (RVA.out.lt k q).2, Keeps.refl _ _⟩
      obtain ⟨m1, m2, rfl⟩ := own_len RVA.out
      obtain ⟨n1, n2, rfl⟩ := own_len rvb
      clear hb3 rvb CL2
      go_wp2_with fail
      go_loopg [37] cs.length (fun n k wr => ∃ j, j + n = cs.length ∧ k = .int .i64 j ∧ CyAt w1 w2 w3 wr (modN T.length) T cs (.slice m1 cs.length m2) (.slice n1 cs.length n2) j)
      case atStart => exact ⟨0, by omega, rfl, C0.out⟩
      case round =>
        clear C0
        obtain ⟨j, hj, rfl, hZ⟩ := hrel
        by_cases hk0 : gk = 0
        · subst hk0
          obtain rfl : cs.length = j := by omega
          have LM1 := Lib.hid (show (cs.map (numC (modN T.length))).length = cs.length by simp)
          have LM2 := Lib.hid (show (cs.map (tabC T (modN T.length))).length = cs.length by simp)
          have LA1 := Lib.hid (show (ansFrom Md.init (cs.map (numC (modN T.length)))).length = cs.length by rw [ansFrom_length]; simp)
          have LA2 := Lib.hid (show (ansFrom Md.init (cs.map (tabC T (modN T.length)))).length = cs.length by rw [ansFrom_length]; simp)
          have CR := Lib.hid (carry_run (T := T) (f := modN T.length) (fun c => (modN_spec hTp hm c).1) OK.out)
          have oa := hZ.a; have ob := hZ.b
          rw [chg_all] at oa ob
          have hbr : Below w.heap.size w wr := B3.out.trans ((hZ.keeps.below (fun k hk _ q => by
            rcases q with q | q
            · have := (hZ.a.lt k q).1; have := B1.out.size; omega
            · have := (hZ.b.lt k q).1; have := B2.out.size; omega) B3.out.size))
          have hro : wr.ownsRow w.heap.size 4 1 ro cs.length (bools (openFrom Md.init cs)) := own_keeps RO3.out hZ.keeps (fun k q r => by
            have := (RO3.out.lt k q).2
            rcases r with r | r
            · have h1 := (RVA.out.lt k r).1; have h2 := (RO.out.lt k q).2; omega
            · have h1 := (hZ.b.lt k r).1; have h2 := (RO2.out.lt k q).2; omega)
          have BR := Lib.hid hbr; have ROR := Lib.hid hro
          have V1 : ∀ c ∈ cs.map (numC (modN T.length)), c.v.ok := by
            intro c hc
            obtain ⟨d, _, rfl⟩ := List.mem_map.1 hc
            have := (modN_spec hTp hm d).1
            refine ⟨by simp [numC], by simp [numC], by simp only [numC]; omega, by simp only [numC]; omega⟩
          have V2 : Hid (∀ c ∈ cs.map (tabC T (modN T.length)), c.v.ok) := by
            intro c hc
            obtain ⟨d, _, rfl⟩ := List.mem_map.1 hc
            have hl := (modN_spec hTp hm d).1
            have e : T[modN T.length d]? = some _ := List.getElem?_eq_getElem hl
            simp only [tabC, List.getD_eq_getElem?_getD, e, Option.getD_some]
            exact TOK.out _ (List.getElem_mem hl)
          have P1 := Lib.hid (play_any (w := wr) (v := .slice m1 cs.length m2) (cs := cs.map (numC (modN T.length))) (by rw [LM1.out]; exact Sl.of_own oa) V1 CR.out.1 (by decide) (by rw [LM1.out]; exact hn))
          have OB := Lib.hid ob
          obtain ⟨wo, rfl⟩ : ∃ wo, wo = wr := ⟨_, rfl⟩
          clear hj hZ oa ob hbr hro V1
          go_wp2_with fail
          refine P1.out.mono ?_
          rintro r w4 ⟨x, rfl, rx, hb4⟩
          rw [LM1.out] at rx
          have B4 := Lib.hid (BR.out.trans (hb4.mono BR.out.size))
          have RX := Lib.hid rx
          have ROR4 := Lib.hid (own_below ROR.out hb4)
          have P2 := Lib.hid (play_any (w := w4) (v := .slice n1 cs.length n2) (cs := cs.map (tabC T (modN T.length))) (by rw [LM2.out]; exact (Sl.of_own OB.out).later hb4) V2.out CR.out.2.1 (by decide) (by rw [LM2.out]; exact hn))
          obtain ⟨x1, x2, rfl⟩ := own_len rx
          clear hb4 rx P1 ROR OB
          go_wp2_with fail
          refine P2.out.mono ?_
          rintro r w5 ⟨y, rfl, ry, hb5⟩
          rw [LM2.out] at ry
          have B5 := Lib.hid (B4.out.trans (hb5.mono B4.out.size))
          have RX5 := Lib.hid (own_below RX.out hb5)
          have RY := Lib.hid ry
          have RO5 := Lib.hid (own_below ROR4.out hb5)
          obtain ⟨y1, y2, rfl⟩ := own_len ry
          obtain ⟨r1, r2, rfl⟩ := own_len RO5.out
          clear hb5 ry P2 RX ROR4 RO RO2 RO3
          go_wp2_with fail
          go_loopg [85] cs.length (fun n k wr => ∃ j, j + n = cs.length ∧ k = .int .i64 j ∧ Below w5.heap.size w5 wr)
          case atStart => exact ⟨0, by omega, rfl, Below.refl _ _⟩
          case round =>
            obtain ⟨j, hj, rfl, hB⟩ := hrel
            by_cases hk0 : gk = 0
            · subst hk0
              obtain rfl : cs.length = j := by omega
              have BE := Lib.hid (B5.out.trans (hB.mono B5.out.size))
              clear hj hB
              go_wp2
              go_ret
              exact ⟨rfl, BE.out⟩
            · have hjl : j < cs.length := by omega
              obtain ⟨c, hc⟩ : ∃ c, cs[j]? = some c := ⟨_, List.getElem?_eq_getElem hjl⟩
              obtain ⟨x, hx⟩ : ∃ x, (ansFrom Md.init (cs.map (numC (modN T.length))))[j]? = some x := ⟨_, List.getElem?_eq_getElem (by rw [LA1.out]; exact hjl)⟩
              obtain ⟨y, hy⟩ : ∃ y, (ansFrom Md.init (cs.map (tabC T (modN T.length))))[j]? = some y := ⟨_, List.getElem?_eq_getElem (by rw [LA2.out]; exact hjl)⟩
              obtain ⟨o, ho⟩ : ∃ o, (openFrom Md.init cs)[j]? = some o := ⟨_, List.getElem?_eq_getElem (by rw [openFrom_length]; exact hjl)⟩
              obtain ⟨k1, k2, k3⟩ := CR.out.2.2 j c x y hc hx hy
              obtain ⟨b, off, cp, hv, hcell⟩ := (S.out.sl.later (B5.out.trans (hB.mono B5.out.size))).elem Cl.cells_length (by decide) (by intro q; rw [q] at hjl; simp at hjl)
              simp only [Value.slice.injEq] at hv
              obtain ⟨rfl, _, rfl⟩ := hv
              have cc : ∀ t z, c.cells[t]? = some z → wr.cell? ⟨b, off + j * 8 + t, none⟩ = some z := fun t z hz => by rw [Nat.add_assoc]; exact hcell j c hc t z hz
              have e0 := cc 0 _ rfl; have e1 := cc 1 _ rfl; have e2 := cc 2 _ rfl; have e3 := cc 3 _ rfl; have e4 := cc 4 _ rfl; have e5 := cc 5 _ rfl; have e6 := cc 6 _ rfl; have e7 := cc 7 _ rfl
              simp only [Nat.add_zero] at e0
              have rx := own_below RX5.out hB
              have ry := own_below RY.out hB
              have rq := own_below RO5.out hB
              rw [flat_bools] at rq
              obtain ⟨xb, xc, hv1⟩ := own_form rx (by omega)
              obtain ⟨yb, yc, hv2⟩ := own_form ry (by omega)
              obtain ⟨ob, oc, hv3⟩ := own_form rq (by omega)
              simp only [Value.slice.injEq] at hv1 hv2 hv3
              obtain ⟨rfl, hz1, rfl⟩ := hv1
              obtain ⟨rfl, hz2, rfl⟩ := hv2
              obtain ⟨rfl, hz3, rfl⟩ := hv3
              have HX : Hid (∀ i z, x.cells[i]? = some z → wr.cell? ⟨xb, j * 5 + i, none⟩ = some z) := fun i z hz => own_elem An.cells_length rx LA1.out hx hz
              have HY : Hid (∀ i z, y.cells[i]? = some z → wr.cell? ⟨yb, j * 5 + i, none⟩ = some z) := fun i z hz => own_elem An.cells_length ry LA2.out hy hz
              have HO := Lib.hid (show wr.cell? ⟨ob, j, none⟩ = some (.bool o) by
                have q := own_elem (f := fun b => [Value.bool b]) (sz := 1) (t := 0) (fun _ => rfl) rq (openFrom_length cs Md.init) ho rfl
                simpa using q)
              have HB := Lib.hid hB; have HJ := Lib.hid hj; have K1 := Lib.hid k1; have K2 := Lib.hid k2
              clear hB hj hx hy ho hc hcell cc rx ry rq hz1 hz2 hz3 k1 k2
              by_cases hA : c.op = 11 ∨ c.op = 20
              · rw [if_pos hA] at k3
                obtain ⟨i, hi, hxv, hyv⟩ := k3
                obtain ⟨tv, htv⟩ : ∃ tv, T[i]? = some tv := ⟨_, List.getElem?_eq_getElem hi⟩
                have hyv' : y.v = canon tv := by rw [hyv, List.getD_eq_getElem?_getD, htv]; rfl
                obtain ⟨b3, o3, c3, hv3, cell3⟩ := (Sl.later ST.out (B5.out.trans (HB.out.mono B5.out.size))).elem (fun _ => rfl) (sz := 3) (by decide) (by intro q; rw [q] at htv; simp at htv)
                simp only [Value.slice.injEq] at hv3
                obtain ⟨rfl, hz3, rfl⟩ := hv3
                have old : ∀ (p : Addr) (z : Value), wr.cell? p = some z → ∀ o o', ((wr.alloc o).alloc o').cell? p = some z := fun p z h o o' => ((below2 wr o o').cell (World.block_lt_of_cell? wr _ h)).trans h
                have ht : ∀ k z, tv.cells[k]? = some z → ∀ o o', ((wr.alloc o).alloc o').cell? ⟨b3, o3 + i * 3 + k, none⟩ = some z := fun k z hz => old _ _ (by rw [Nat.add_assoc]; exact cell3 _ tv htv k z hz)
                have d0 := ht 0 _ rfl; have d1 := ht 1 _ rfl; have d2 := ht 2 _ rfl
                simp only [Nat.add_zero] at d0
                have x3 : ∀ o o', ((wr.alloc o).alloc o').cell? ⟨xb, j * 5 + 3, none⟩ = some (.int .i64 (i : Nat)) := old _ _ (by have := HX.out 3 _ rfl; rw [hxv] at this; exact this)
                have HTV := Lib.hid (TOK.out tv (List.mem_of_getElem? htv))
                have HYV := Lib.hid hyv'
                have qq : (c.op == 11) = true ∨ ((c.op == 11) = false ∧ (c.op == 20) = true) := by
                  by_cases h : c.op = 11
                  · exact .inl (by simpa using h)
                  · exact .inr ⟨by simpa using h, by rcases hA with q | q; exact absurd q h; simpa using q⟩
                have PO : Hid (∀ o1 o2, Calls Try.prog 11 #[.slice (some ⟨wr.heap.size + 1 + 1, 0, none⟩) 2 2] (((wr.alloc o1).alloc o2).alloc (.cells ([cLoose tv, cGet0].flatMap Cl.cells).toArray 32)) fun r w' => ∃ out, r = .returned out ∧ w'.ownsRow (wr.heap.size + 1 + 1 + 1) 41 5 out 2 ((ansFrom Md.init [cLoose tv, cGet0]).flatMap An.cells) ∧ Below (wr.heap.size + 1 + 1 + 1) (((wr.alloc o1).alloc o2).alloc (.cells ([cLoose tv, cGet0].flatMap Cl.cells).toArray 32)) w') := fun o1 o2 => by
                  have q := play_any (w := ((wr.alloc o1).alloc o2).alloc (.cells ([cLoose tv, cGet0].flatMap Cl.cells).toArray 32)) (v := .slice (some ⟨wr.heap.size + 1 + 1, 0, none⟩) 2 2) (cs := [cLoose tv, cGet0]) (most := 500) (sl_at' _ _ _ _ _ _ (by simp)) (by intro d hd; simp only [List.mem_cons, List.not_mem_nil, or_false] at hd; rcases hd with rfl | rfl; exact HTV.out; exact vl_zero_ok) (loose_ok tv) (by decide) (by simp)
                  simpa using q
                clear hA hxv hyv hyv' htv cell3 ht hz3 old
                generalize hcop : c.op = op at *
                clear hcop
                rcases qq with q11 | ⟨q11, q20⟩
                all_goals
                  go_wp2_with fail
                  refine (PO.out _ _).mono ?_
                  rintro r w6 ⟨out, rfl, rout, hb6⟩
                  obtain ⟨pb, pc, rfl⟩ := own_form rout (by omega)
                  have la : (ansFrom Md.init [cLoose tv, cGet0]).length = 2 := by rw [ansFrom_length]; rfl
                  have g7 : w6.cell? ⟨pb, 7, none⟩ = some (.int .i64 (canon tv).kind) := own_elem (j := 1) (t := 2) An.cells_length rout la (loose_ans tv) rfl
                  have g8 : w6.cell? ⟨pb, 8, none⟩ = some (.int .i64 (canon tv).n) := own_elem (j := 1) (t := 3) An.cells_length rout la (loose_ans tv) rfl
                  have g9 : w6.cell? ⟨pb, 9, none⟩ = some (.string (canon tv).s) := own_elem (j := 1) (t := 4) An.cells_length rout la (loose_ans tv) rfl
                  have G16 : w6.heap[wr.heap.size + 1]? = some (.cells #[.int .i64 0, .int .i64 0, .string ⟨#[]⟩] 30 (0, 0)) := by
                    rw [hb6.block (wr.heap.size + 1) (by omega), Below.heap_alloc _ _ _ (by simp)]
                    have := heap_alloc_new (wr.alloc (.cells #[.int .i64 op, .int .i64 c.list, .int .i64 c.other, .int .i64 c.elem, .int .i64 c.mark, .int .i64 c.v.kind, .int .i64 c.v.n, .string c.v.s] 32)) (.cells #[.int .i64 0, .int .i64 0, .string ⟨#[]⟩] 30)
                    simpa using this
                  have hb6' : Below wr.heap.size wr w6 := (below3 wr _ _ _).trans (hb6.mono (by omega))
                  clear rout hb6 la PO
                  generalize canon tv = V at *
                  have c0 := cell_of_heap (o := 0) G16 rfl
                  have c1 := cell_of_heap (o := 1) G16 rfl
                  have c2 := cell_of_heap (o := 2) G16 rfl
                  have f0 : w6.frozen? ⟨wr.heap.size + 1, 0, none⟩ = false := free_of_heap G16
                  have f1 : w6.frozen? ⟨wr.heap.size + 1, 1, none⟩ = false := free_of_heap G16
                  have f2 : w6.frozen? ⟨wr.heap.size + 1, 2, none⟩ = false := free_of_heap G16
                  have HG := Lib.hid G16; have HB6 := Lib.hid hb6'
                  clear G16 hb6'
                  go_wp2_with fail
                  change Code.wp _ _ _ _ (trio w6 (wr.heap.size + 1) 0 V)
                  have hgq := trio_heap HG.out V
                  have hbq : Below wr.heap.size wr (trio w6 (wr.heap.size + 1) 0 V) := HB6.out.trans ((trio_keeps (S := fun k => k = wr.heap.size + 1) (Keeps.refl _ w6) rfl).below (fun k hk _ q => by omega) HB6.out.size)
                  generalize trio w6 (wr.heap.size + 1) 0 V = wq at *
                  clear g7 g8 g9 c0 c1 c2 f0 f1 f2 HG HB6 x3 d0 d1 d2 e0 e1 e2 e3 e4 e5 e6 e7
                  have HBQ := Lib.hid hbq
                  have oldq : ∀ (p : Addr) (z : Value), wr.cell? p = some z → wq.cell? p = some z := fun p z h => (HBQ.out.cell (World.block_lt_of_cell? wr _ h)).trans h
                  have x0 := oldq _ _ (HX.out 0 _ rfl); have x1 := oldq _ _ (HX.out 1 _ rfl)
                  have y0 := oldq _ _ (HY.out 0 _ rfl); have y1 := oldq _ _ (HY.out 1 _ rfl); have y2 := oldq _ _ (HY.out 2 _ rfl); have y3 := oldq _ _ (HY.out 3 _ rfl); have y4 := oldq _ _ (HY.out 4 _ rfl)
                  have oo := oldq _ _ HO.out
                  rw [K1.out] at y0
                  rw [K2.out] at y1
                  rw [HYV.out] at y2 y3 y4
                  have w0 := cell_of_heap (o := 0) hgq rfl
                  have w1' := cell_of_heap (o := 1) hgq rfl
                  have w2' := cell_of_heap (o := 2) hgq rfl
                  simp only [Nat.add_zero] at x0 y0
                  clear oldq hgq hbq
                  cases o
                  all_goals
                    go_quiet (fail)
                    go_wp2
                    go_roundg (gk - 1)
                    case measure => omega
                    case rel => exact ⟨j + 1, by have := HJ.out; omega, by go_num, Below.drewN' (HB.out.trans (HBQ.out.mono HB.out.size)) _⟩
              · rw [if_neg hA] at k3
                have HYV := Lib.hid k3
                have q11 : (c.op == 11) = false := by simp; exact fun q => hA (.inl q)
                have q20 : (c.op == 20) = false := by simp; exact fun q => hA (.inr q)
                clear hA k3
                generalize hcop : c.op = op at *
                clear hcop
                go_wp2_with fail
                have hgq : ((wr.alloc (.cells #[.int .i64 op, .int .i64 c.list, .int .i64 c.other, .int .i64 c.elem, .int .i64 c.mark, .int .i64 c.v.kind, .int .i64 c.v.n, .string c.v.s] 32)).alloc (.cells #[.int .i64 0, .int .i64 0, .string ⟨#[]⟩] 30)).heap[wr.heap.size + 1]? = some (.cells #[.int .i64 Vl.zero.kind, .int .i64 Vl.zero.n, .string Vl.zero.s] 30 (0, 0)) := by
                  have q := heap_alloc_new (wr.alloc (.cells #[.int .i64 op, .int .i64 c.list, .int .i64 c.other, .int .i64 c.elem, .int .i64 c.mark, .int .i64 c.v.kind, .int .i64 c.v.n, .string c.v.s] 32)) (.cells #[.int .i64 0, .int .i64 0, .string ⟨#[]⟩] 30)
                  rw [World.size_alloc] at q
                  exact q
                have hbq := below2 wr (.cells #[.int .i64 op, .int .i64 c.list, .int .i64 c.other, .int .i64 c.elem, .int .i64 c.mark, .int .i64 c.v.kind, .int .i64 c.v.n, .string c.v.s] 32) (.cells #[.int .i64 0, .int .i64 0, .string ⟨#[]⟩] 30)
                generalize ((wr.alloc (.cells #[.int .i64 op, .int .i64 c.list, .int .i64 c.other, .int .i64 c.elem, .int .i64 c.mark, .int .i64 c.v.kind, .int .i64 c.v.n, .string c.v.s] 32)).alloc (.cells #[.int .i64 0, .int .i64 0, .string ⟨#[]⟩] 30)) = wq at *
                clear e0 e1 e2 e3 e4 e5 e6 e7
                have HBQ := Lib.hid hbq
                have oldq : ∀ (p : Addr) (z : Value), wr.cell? p = some z → wq.cell? p = some z := fun p z h => (HBQ.out.cell (World.block_lt_of_cell? wr _ h)).trans h
                have x0 := oldq _ _ (HX.out 0 _ rfl); have x1 := oldq _ _ (HX.out 1 _ rfl)
                have y0 := oldq _ _ (HY.out 0 _ rfl); have y1 := oldq _ _ (HY.out 1 _ rfl); have y2 := oldq _ _ (HY.out 2 _ rfl); have y3 := oldq _ _ (HY.out 3 _ rfl); have y4 := oldq _ _ (HY.out 4 _ rfl)
                have oo := oldq _ _ HO.out
                rw [K1.out] at y0
                rw [K2.out] at y1
                rw [HYV.out] at y2 y3 y4
                have w0 := cell_of_heap (o := 0) hgq rfl
                have w1' := cell_of_heap (o := 1) hgq rfl
                have w2' := cell_of_heap (o := 2) hgq rfl
                simp only [Nat.add_zero] at x0 y0
                clear oldq hgq hbq
                cases o
                all_goals
                  go_quiet (fail)
                  go_wp2
                  go_roundg (gk - 1)
                  case measure => omega
                  case rel => exact ⟨j + 1, by have := HJ.out; omega, by go_num, Below.drewN' (HB.out.trans (HBQ.out.mono HB.out.size)) _⟩
        · have hjl : j < cs.length := by omega
          obtain ⟨hf1, hf2⟩ := modN_spec hTp hm cs[j]
          obtain ⟨b1, c1, hv1⟩ := own_form hZ.a (by omega)
          obtain ⟨b2, c2, hv2⟩ := own_form hZ.b (by omega)
          simp only [Value.slice.injEq] at hv1 hv2
          obtain ⟨rfl, hz1, rfl⟩ := hv1
          obtain ⟨rfl, hz2, rfl⟩ := hv2
          have hg1 := chg_get (f := numC (modN T.length)) hjl
          have hg2 := chg_get (f := tabC T (modN T.length)) hjl
          have ea : ∀ i z, cs[j].cells[i]? = some z → wr.cell? ⟨b1, j * 8 + i, none⟩ = some z := fun i z hz => own_elem Cl.cells_length hZ.a (chg_len _ _ _) hg1 hz
          have eb : ∀ i z, cs[j].cells[i]? = some z → wr.cell? ⟨b2, j * 8 + i, none⟩ = some z := fun i z hz => own_elem Cl.cells_length hZ.b (chg_len _ _ _) hg2 hz
          have a5 := ea 5 _ rfl; have a6 := ea 6 _ rfl; have a7 := ea 7 _ rfl
          have b5 := eb 5 _ rfl; have b6 := eb 6 _ rfl; have b7 := eb 7 _ rfl
          have za : ∀ i, wr.frozen? ⟨b1, i, none⟩ = false := fun i => hZ.a.frozenAt i
          have zb : ∀ i, wr.frozen? ⟨b2, i, none⟩ = false := fun i => hZ.b.frozenAt i
          have z5 := za (j * 8 + 5); have z6 := za (j * 8 + 6); have z7 := za (j * 8 + 7)
          have y5 := zb (j * 8 + 5); have y6 := zb (j * 8 + 6); have y7 := zb (j * 8 + 7)
          have hlt1 := hZ.alt b1 rfl
          have hlt2 : w2.heap.size ≤ b2 := (hZ.b.lt b2 rfl).1
          have hne : ¬ b1 = b2 := by omega
          have hne' : ¬ b2 = b1 := by omega
          have hbr : Below w.heap.size w wr := B3.out.trans ((hZ.keeps.below (fun k hk _ q => by
            rcases q with q | q
            · have := (hZ.a.lt k q).1; have := B1.out.size; omega
            · have := (hZ.b.lt k q).1; have := B2.out.size; omega) B3.out.size))
          obtain ⟨tv, htv⟩ : ∃ tv, T[modN T.length cs[j]]? = some tv := ⟨_, List.getElem?_eq_getElem hf1⟩
          obtain ⟨b3, o3, c3, hv3, cell3⟩ := (Sl.later ST.out hbr).elem (fun _ => rfl) (sz := 3) (by decide) (by intro q; rw [q] at htv; simp at htv)
          simp only [Value.slice.injEq] at hv3
          obtain ⟨rfl, hz3, rfl⟩ := hv3
          have hb3w : b3 < w.heap.size := by
            obtain ⟨b3', o3', c3', hv3', cell3'⟩ := ST.out.elem (fun _ => rfl) (sz := 3) (by decide) (by intro q; rw [q] at htv; simp at htv)
            simp only [Value.slice.injEq, Option.some.injEq, Addr.mk.injEq] at hv3'
            obtain ⟨⟨rfl, rfl, _⟩, _, _⟩ := hv3'
            exact World.block_lt_of_cell? w _ (cell3' _ tv htv 0 _ rfl)
          have hbw1 : w.heap.size ≤ b1 := by have := (hZ.a.lt b1 rfl).1; have := B1.out.size; omega
          have ht : ∀ i z, tv.cells[i]? = some z → wr.cell? ⟨b3, o3 + modN T.length cs[j] * 3 + i, none⟩ = some z := fun i z hz => by rw [Nat.add_assoc]; exact cell3 _ tv htv i z hz
          have d0 := ht 0 _ rfl; have d1 := ht 1 _ rfl; have d2 := ht 2 _ rfl
          simp only [Nat.add_zero] at d0
          have hne3 : ¬ b1 = b3 := by omega
          have hne3' : ¬ b3 = b1 := by omega
          have N := Lib.hid (hZ.next hjl)
          have ETV : Hid (T.getD (modN T.length cs[j]) Vl.zero = tv) := by show _ = _; rw [List.getD_eq_getElem?_getD, htv]; rfl
          rw [ETV.out] at N
          have HJ := Lib.hid hj
          clear hj hZ hg1 hg2 ea eb za zb ht cell3 htv hz1 hz2 hz3 hbr ETV
          generalize hf : modN T.length cs[j] = fi at *
          clear hf
          go_wp2_with (rw [hf2])
          go_roundg (gk - 1)
          case measure => omega
          case rel => exact ⟨j + 1, by have := HJ.out; omega, by go_num, N.out⟩
end Bead
end Go.Proofs.Ytidnmanljdadaaa
