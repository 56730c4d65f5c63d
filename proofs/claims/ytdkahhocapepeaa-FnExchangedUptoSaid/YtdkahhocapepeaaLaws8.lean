/- FnExchanged returns true. -/
import Derived.Test.YtdkahhocapepeaaLaws7
set_option linter.all false
namespace Go.Proofs.Ytdkahhocapepeaa
open Go.RowKit
namespace Bead
set_option maxRecDepth 100000

set_option maxHeartbeats 2000000 in
theorem exchange_c {w : World} {v : Value} {cs : List Cl} (hs : Sl w v cs.length (cs.flatMap Cl.cells)) (hf : Value.fair v) (hv : ∀ c ∈ cs, c.v.ok) (hlen : cs.length ≤ 1099511627776) :
    Calls Try.prog 6 #[v] w fun r w' => r = .returned (.bool true) ∧ Below w.heap.size w w' := by
  have DF := Lib.hid (defined_c hs hlen)
  have HS := Lib.hid hs; have HV := Lib.hid hv; have HF := Lib.hid hf
  clear hs hv hf
  go_enter Try.func6, Try.ntmps6
  go_wp2_with fail
  refine DF.out.mono ?_
  rintro r w1 ⟨hb1, hcase⟩
  have B1 := Lib.hid hb1
  rcases hcase with ⟨hok, a, o, rfl, ra, ro⟩ | ⟨hok, rfl⟩
  · rw [flat_bools] at ro
    have RO := Lib.hid ro
    have HOK := Lib.hid hok
    clear hok ra ro DF
    by_cases h2 : cs.length < 2
    · obtain ⟨sa, sc, e, _⟩ := HS.out
      subst e
      go_wp2
      go_ret
      exact ⟨rfl, B1.out⟩
    obtain ⟨c0, c1, rest, hcs⟩ : ∃ c0 c1 rest, cs = c0 :: c1 :: rest := by
      match cs, h2 with
      | c0 :: c1 :: rest, _ => exact ⟨c0, c1, rest, rfl⟩
      | [], h2 => simp at h2
      | [_], h2 => simp at h2
    obtain ⟨b, off, sc, e, hcell⟩ := HS.out.elem Cl.cells_length (by decide) (by rw [hcs]; simp)
    subst e
    have g0 : cs[0]? = some c0 := by rw [hcs]; rfl
    have g1 : cs[1]? = some c1 := by rw [hcs]; rfl
    have hbw : b < w.heap.size := World.block_lt_of_cell? w ⟨b, off + (0 * 8 + 0), none⟩ (hcell 0 c0 g0 0 _ rfl)
    have k0 : ∀ {W : World} (hW : Below w.heap.size w W) t y, c0.cells[t]? = some y → W.cell? ⟨b, off + t, none⟩ = some y := fun hW t y hy => by
      have := hcell 0 c0 g0 t y hy
      rw [Nat.zero_mul, Nat.zero_add] at this
      rw [hW.cell (p := ⟨b, off + t, none⟩) hbw]; exact this
    have k1 : ∀ {W : World} (hW : Below w.heap.size w W) t y, c1.cells[t]? = some y → W.cell? ⟨b, off + 8 + t, none⟩ = some y := fun hW t y hy => by
      have := hcell 1 c1 g1 t y hy
      rw [hW.cell (p := ⟨b, off + 8 + t, none⟩) hbw, Nat.add_assoc]; exact this
    have x0 := k0 B1.out 0 _ rfl; have x1 := k0 B1.out 1 _ rfl; have x2 := k0 B1.out 2 _ rfl; have x3 := k0 B1.out 3 _ rfl; have x4 := k0 B1.out 4 _ rfl; have x5 := k0 B1.out 5 _ rfl; have x6 := k0 B1.out 6 _ rfl; have x7 := k0 B1.out 7 _ rfl
    simp only [Nat.add_zero] at x0
    have K1 : Hid (∀ (W : World) (hW : Below w.heap.size w W) t y, c1.cells[t]? = some y → W.cell? ⟨b, off + 8 + t, none⟩ = some y) := Lib.hid (fun W hW => k1 hW); have HCS := Lib.hid hcs
    clear k0 k1 g0 g1 hcell hcs
    go_wp2_with fail
    refine (made_c c0 _).mono ?_
    rintro r wA ⟨rfl, hbA⟩
    have BA := Lib.hid (B1.out.trans (hbA.mono B1.out.size))
    have ROA := Lib.hid (own_below RO.out hbA)
    clear hbA hb1 x0 x1 x2 x3 x4 x5 x6 x7 B1 RO
    by_cases ha : c0.op = 0 ∨ c0.op = 1
    case neg =>
      rw [decide_eq_false ha]
      go_wp2
      go_ret
      exact ⟨rfl, BA.out⟩
    rw [decide_eq_true ha]
    have x0 := K1.out _ BA.out 0 _ rfl; have x1 := K1.out _ BA.out 1 _ rfl; have x2 := K1.out _ BA.out 2 _ rfl; have x3 := K1.out _ BA.out 3 _ rfl; have x4 := K1.out _ BA.out 4 _ rfl; have x5 := K1.out _ BA.out 5 _ rfl; have x6 := K1.out _ BA.out 6 _ rfl; have x7 := K1.out _ BA.out 7 _ rfl
    simp only [Nat.add_zero] at x0
    clear K1
    go_wp2_with fail
    refine (made_c c1 _).mono ?_
    rintro r w1 ⟨rfl, hb1⟩
    have B1 := Lib.hid (BA.out.trans (hb1.mono BA.out.size))
    have RO := Lib.hid (own_below ROA.out hb1)
    clear hb1 x0 x1 x2 x3 x4 x5 x6 x7 BA ROA
    by_cases hb : c1.op = 0 ∨ c1.op = 1
    case neg =>
      rw [decide_eq_false hb]
      go_wp2
      go_ret
      exact ⟨rfl, B1.out⟩
    rw [decide_eq_true hb]
    have RUN : Hid (okFrom 500 Md.init (cs.map exC) = true ∧ ansFrom Md.init (cs.map exC) = ansFrom Md.init cs) := Lib.hid (by have := HOK.out; rw [HCS.out] at this ⊢; exact ex_run ha hb this)
    have CL := Lib.hid (clone_c (HS.out.later B1.out) HF.out hlen)
    clear ha hb HCS hbw
    go_wp2_with fail
    refine CL.out.mono ?_
    rintro r w2 ⟨vc, rfl, rc, hb2⟩
    have B2 := Lib.hid (B1.out.trans (hb2.mono B1.out.size))
    have RO2 := Lib.hid (own_below RO.out hb2)
    have Z0 : Hid (ZAt w1 w2 exC cs vc 0) := ⟨by rw [chg_zero]; exact rc, ⟨hb2.os, hb2.tape, hb2.output, hb2.size, fun k hk _ => hb2.block k hk⟩⟩
    obtain ⟨c1, c2, rfl⟩ := own_len rc
    have BC := Lib.hid (fun k q => (rc.lt k q).1)
    have HB2 := Lib.hid hb2
    clear hb2 rc CL
    go_wp2_with fail
    go_loopg [39] cs.length (fun n k wr => ∃ j, j + n = cs.length ∧ k = .int .i64 j ∧ ZAt w1 wr exC cs (.slice c1 cs.length c2) j)
    case atStart => exact ⟨0, by omega, rfl, Z0.out⟩
    case round =>
      clear Z0
      obtain ⟨j, hj, rfl, hZ⟩ := hrel
      by_cases hk0 : gk = 0
      · subst hk0
        obtain rfl : j = cs.length := by omega
        have own := hZ.own
        rw [chg_all] at own
        have LM : (cs.map exC).length = cs.length := by simp
        have hbr : Below w1.heap.size w1 wr := hZ.keeps.below (fun k hk _ q => by have := BC.out k q; omega) (Nat.le_refl _)
        have ROr := Lib.hid (own_keeps RO.out hZ.keeps (fun k q r => by have := (RO.out.lt k q).2; have := BC.out k r; omega))
        have P1 := Lib.hid (play_any ((HS.out.later B1.out).later hbr) HV.out HOK.out (by decide) hlen)
        have SLM : Hid (Sl wr (.slice c1 cs.length c2) (cs.map exC).length ((cs.map exC).flatMap Cl.cells)) := by rw [LM]; exact Sl.of_own own
        have BR := Lib.hid (B1.out.trans (hbr.mono B1.out.size))
        clear hZ hj own hbr
        go_wp2_with fail
        refine P1.out.mono ?_
        rintro r w3 ⟨o1, rfl, r1, hb3⟩
        have HVM : ∀ c ∈ cs.map exC, c.v.ok := fun c hc => by
          obtain ⟨c', h1, rfl⟩ := List.mem_map.1 hc
          have := HV.out c' h1
          exact this
        have P2 := Lib.hid (play_any (SLM.out.later hb3) HVM RUN.out.1 (by decide) (by rw [LM]; exact hlen))
        have RO3 := Lib.hid (own_below ROr.out hb3)
        have R1 := Lib.hid r1
        have B3 := Lib.hid (BR.out.trans (hb3.mono BR.out.size))
        clear hb3 HVM r1 P1
        go_wp2_with fail
        refine P2.out.mono ?_
        rintro r w4 ⟨o2, rfl, r2, hb4⟩
        rw [RUN.out.2, LM] at r2
        have LA : (ansFrom Md.init cs).length = cs.length := ansFrom_length cs Md.init
        have LO : (openFrom Md.init cs).length = cs.length := openFrom_length cs Md.init
        have AG := Lib.hid (agree_c (w := w4) (A := ansFrom Md.init cs) (O := openFrom Md.init cs) (by rw [LA]; exact (Sl.of_own R1.out).later hb4) (by rw [LA]; exact Sl.of_own r2) (by rw [LA]; exact (Sl.of_own RO3.out).later hb4) (by rw [LA, LO]) (by rw [LA]; omega))
        have B4 := Lib.hid (B3.out.trans (hb4.mono B3.out.size))
        clear hb4 r2 P2 LA LO LM
        go_wp2_with fail
        refine AG.out.mono ?_
        rintro r w5 ⟨rfl, d, rfl⟩
        go_wp2
        go_ret
        exact ⟨rfl, Below.drewN' B4.out d⟩
      · have hjl : j < cs.length := by omega
        have hget := chg_get (f := exC) hjl
        have HC := Lib.hid (chg_succ (f := exC) hjl)
        obtain ⟨b1, cp1, hv1⟩ := own_form hZ.own (by omega)
        simp only [Value.slice.injEq] at hv1
        obtain ⟨rfl, hz1, rfl⟩ := hv1
        clear hz1
        have e1 : wr.cell? ⟨b1, j * 8 + 1, none⟩ = some (.int .i64 cs[j].list) := own_elem (t := 1) Cl.cells_length hZ.own (chg_len _ _ _) hget rfl
        have e2 : wr.cell? ⟨b1, j * 8 + 2, none⟩ = some (.int .i64 cs[j].other) := own_elem (t := 2) Cl.cells_length hZ.own (chg_len _ _ _) hget rfl
        have z1 : wr.frozen? ⟨b1, j * 8 + 1, none⟩ = false := hZ.own.frozenAt _
        have z2 : wr.frozen? ⟨b1, j * 8 + 2, none⟩ = false := hZ.own.frozenAt _
        have HZ := Lib.hid hZ; have HG := Lib.hid hget; have HJ := Lib.hid hj
        clear hZ hget hj
        have MID := Lib.hid (own_set1 (t := 1) (c' := { cs[j] with list := exch cs[j].list }) (v := .int .i64 (exch cs[j].list)) HZ.out.own HG.out (by decide) rfl)
        have MG : ((chg exC cs j).set j { cs[j] with list := exch cs[j].list })[j]? = some { cs[j] with list := exch cs[j].list } := List.getElem?_set_self (by rw [chg_len]; exact hjl)
        have N : Hid (ZAt w1 ((wr.setCell ⟨b1, j * 8 + 1, none⟩ (.int .i64 (exch cs[j].list))).setCell ⟨b1, j * 8 + 2, none⟩ (.int .i64 (exch cs[j].other))).drew exC cs (.slice (some ⟨b1, 0, none⟩) cs.length c2) (j + 1)) :=
          ⟨by
            have q := own_set1 (t := 2) (c' := exC cs[j]) (v := .int .i64 (exch cs[j].other)) MID.out MG (by decide) rfl
            rw [List.set_set] at q
            rw [HC.out]
            exact own_below q (Below.refl _ _).drew, ((HZ.out.keeps.setCell (p := ⟨b1, j * 8 + 1, none⟩) (fun _ => rfl) _).setCell (p := ⟨b1, j * 8 + 2, none⟩) (fun _ => rfl) _).drew⟩
        clear MID MG
        go_wp2_with fail
        go_region_law ((go_simp; go_at_call 19; refine (exchanged_c _ _).mono ?_; rintro r w' ⟨rfl, rfl⟩))
        all_goals
          go_wp2
          go_roundg (gk - 1)
          case measure => omega
          case rel => exact ⟨j + 1, by have := HJ.out; omega, by go_num, N.out⟩
  · clear DF hb1 hok
    go_wp2
    go_ret
    exact ⟨rfl, B1.out⟩
end Bead
end Go.Proofs.Ytdkahhocapepeaa
