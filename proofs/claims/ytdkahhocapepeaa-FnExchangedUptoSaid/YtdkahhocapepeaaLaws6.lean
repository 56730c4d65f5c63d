/- FnMirror returns true. -/
import Derived.Test.YtdkahhocapepeaaLaws5
set_option linter.all false
namespace Go.Proofs.Ytdkahhocapepeaa
open Go.RowKit
namespace Bead
set_option maxRecDepth 100000

theorem ok_ops {most : Nat} : ∀ {cs : List Cl} {m : Md}, okFrom most m cs = true → ∀ c ∈ cs, 0 ≤ c.op ∧ c.op < 22
  | [], _, _, _, h => by simp at h
  | x :: cs, m, ho, c, h => by
    simp only [okFrom, Bool.and_eq_true] at ho
    rcases List.mem_cons.1 h with rfl | h
    · have := (permitted_iff _ _ _).1 ho.1; exact ⟨this.lo, this.hi⟩
    · exact ok_ops ho.2 c h

set_option maxHeartbeats 2000000 in
theorem mirror_c {w : World} {v : Value} {cs : List Cl} (hs : Sl w v cs.length (cs.flatMap Cl.cells)) (hf : Value.fair v) (hv : ∀ c ∈ cs, c.v.ok) (hlen : cs.length ≤ 1099511627776) :
    Calls Try.prog 7 #[v] w fun r w' => r = .returned (.bool true) ∧ Below w.heap.size w w' := by
  have DF := Lib.hid (defined_c hs hlen)
  have HS := Lib.hid hs; have HV := Lib.hid hv; have HF := Lib.hid hf
  clear hs hv hf
  go_enter Try.func7, Try.ntmps7
  go_wp2_with fail
  refine DF.out.mono ?_
  rintro r w1 ⟨hb1, hcase⟩
  have B1 := Lib.hid hb1
  rcases hcase with ⟨hok, a, o, rfl, ra, ro⟩ | ⟨hok, rfl⟩
  · have CL := Lib.hid (clone_c (HS.out.later hb1) HF.out hlen)
    rw [flat_bools] at ro
    have RO := Lib.hid ro
    have HOK := Lib.hid hok
    clear hb1 hok ra ro DF
    go_wp2_with fail
    refine CL.out.mono ?_
    rintro r w2 ⟨vc, rfl, rc, hb2⟩
    have B2 := Lib.hid (B1.out.trans (hb2.mono B1.out.size))
    have RO2 := Lib.hid (own_below RO.out hb2)
    have Z0 : Hid (ZAt w1 w2 mirC cs vc 0) := ⟨by rw [chg_zero]; exact rc, ⟨hb2.os, hb2.tape, hb2.output, hb2.size, fun k hk _ => hb2.block k hk⟩⟩
    obtain ⟨c1, c2, rfl⟩ := own_len rc
    have BC := Lib.hid (fun k q => (rc.lt k q).1)
    have HB2 := Lib.hid hb2
    clear hb2 rc CL
    go_wp2_with fail
    go_loopg [20] cs.length (fun n k wr => ∃ j, j + n = cs.length ∧ k = .int .i64 j ∧ ZAt w1 wr mirC cs (.slice c1 cs.length c2) j)
    case atStart => exact ⟨0, by omega, rfl, Z0.out⟩
    case round =>
      clear Z0
      obtain ⟨j, hj, rfl, hZ⟩ := hrel
      by_cases hk0 : gk = 0
      · subst hk0
        obtain rfl : j = cs.length := by omega
        have own := hZ.own
        rw [chg_all] at own
        have LM : (cs.map mirC).length = cs.length := by simp
        have hbr : Below w1.heap.size w1 wr := hZ.keeps.below (fun k hk _ q => by have := BC.out k q; omega) (Nat.le_refl _)
        have ROr := Lib.hid (own_keeps RO.out hZ.keeps (fun k q r => by have := (RO.out.lt k q).2; have := BC.out k r; omega))
        have P1 := Lib.hid (play_any ((HS.out.later B1.out).later hbr) HV.out HOK.out (by decide) hlen)
        have SLM : Hid (Sl wr (.slice c1 cs.length c2) (cs.map mirC).length ((cs.map mirC).flatMap Cl.cells)) := by rw [LM]; exact Sl.of_own own
        have BR := Lib.hid (B1.out.trans (hbr.mono B1.out.size))
        clear hZ hj own hbr
        go_wp2_with fail
        refine P1.out.mono ?_
        rintro r w3 ⟨o1, rfl, r1, hb3⟩
        have HVM : ∀ c ∈ cs.map mirC, c.v.ok := fun c hc => by
          obtain ⟨c', h1, rfl⟩ := List.mem_map.1 hc
          have := HV.out c' h1
          exact this
        have P2 := Lib.hid (play_any (SLM.out.later hb3) HVM (mir_run HOK.out).1 (by decide) (by rw [LM]; exact hlen))
        have RO3 := Lib.hid (own_below ROr.out hb3)
        have R1 := Lib.hid r1
        have B3 := Lib.hid (BR.out.trans (hb3.mono BR.out.size))
        clear hb3 HVM r1 P1
        go_wp2_with fail
        refine P2.out.mono ?_
        rintro r w4 ⟨o2, rfl, r2, hb4⟩
        rw [(mir_run HOK.out).2, LM] at r2
        have LA : (ansFrom Md.init cs).length = cs.length := ansFrom_length cs Md.init
        have LO : (openFrom Md.init cs).length = cs.length := openFrom_length cs Md.init
        have AG := Lib.hid (agree_c (w := w4) (A := ansFrom Md.init cs) (O := openFrom Md.init cs) (by rw [LA]; exact (Sl.of_own R1.out).later hb4) (by rw [LA]; exact Sl.of_own r2) (by rw [LA]; exact (Sl.of_own RO3.out).later hb4) (by rw [LA, LO]) (by rw [LA]; omega))
        have B4 := Lib.hid (B3.out.trans (hb4.mono B3.out.size))
        clear hb4 r2 P2 LA LO LM
        go_wp2_with fail
        refine AG.out.mono ?_
        rintro r w5 ⟨rfl, d, rfl⟩
        go_wp2
        go_ret
        exact ⟨rfl, Below.drewN' B4.out d⟩
      · have hjl : j < cs.length := by omega
        have hget := chg_get (f := mirC) hjl
        have HC := Lib.hid (chg_succ (f := mirC) hjl)
        obtain ⟨b1, cp1, hv1⟩ := own_form hZ.own (by omega)
        simp only [Value.slice.injEq] at hv1
        obtain ⟨rfl, hz1, rfl⟩ := hv1
        clear hz1
        have e0 : wr.cell? ⟨b1, j * 8, none⟩ = some (.int .i64 cs[j].op) := own_elem (t := 0) Cl.cells_length hZ.own (chg_len _ _ _) hget rfl
        have z0 : wr.frozen? ⟨b1, j * 8, none⟩ = false := hZ.own.frozenAt _
        have HZ := Lib.hid hZ; have HG := Lib.hid hget; have HJ := Lib.hid hj
        clear hZ hget hj
        have hop := ok_ops HOK.out cs[j] (List.getElem_mem hjl)
        have MC := Lib.hid (mirrored_c (w := wr) cs[j].op hop.1 hop.2)
        clear hop
        go_wp2_with fail
        refine MC.out.mono ?_
        rintro r w3 ⟨rfl, hb3⟩
        have own3 := own_below HZ.out.own hb3
        have kp3 : Keeps (fun k => (Value.slice (some ⟨b1, 0, none⟩) cs.length c2).ownBlock = some k) w1 w3 := HZ.out.keeps.trans ⟨hb3.os, hb3.tape, hb3.output, hb3.size, fun k hk _ => hb3.block k hk⟩
        have e3 : w3.cell? ⟨b1, j * 8, none⟩ = some (.int .i64 cs[j].op) := own_elem (t := 0) Cl.cells_length own3 (chg_len _ _ _) HG.out rfl
        have z3 : w3.frozen? ⟨b1, j * 8, none⟩ = false := own3.frozenAt _
        have N : Hid (ZAt w1 (w3.setCell ⟨b1, j * 8, none⟩ (.int .i64 (mir cs[j].op))) mirC cs (.slice (some ⟨b1, 0, none⟩) cs.length c2) (j + 1)) :=
          ⟨by rw [HC.out]; exact own_set1 (t := 0) (c' := mirC cs[j]) (v := .int .i64 (mir cs[j].op)) own3 HG.out (by decide) rfl, kp3.setCell (p := ⟨b1, j * 8, none⟩) (fun _ => rfl) _⟩
        clear own3 kp3 hb3 MC
        go_wp2
        go_roundg (gk - 1)
        case measure => omega
        case rel => exact ⟨j + 1, by have := HJ.out; omega, by go_num, N.out⟩
  · clear DF hb1 hok
    go_wp2
    go_ret
    exact ⟨rfl, B1.out⟩
end Bead
end Go.Proofs.Ytdkahhocapepeaa
