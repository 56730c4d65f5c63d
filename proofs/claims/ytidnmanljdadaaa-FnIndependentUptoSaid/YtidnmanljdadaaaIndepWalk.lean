/- FnIndependent returns true: two scripts of at most 2^40 calls each. -/
import Derived.Test.YtidnmanljdadaaaIndep
set_option linter.all false
namespace Go.Proofs.Ytidnmanljdadaaa
open Go.RowKit
namespace Bead
set_option maxRecDepth 100000

/-- make([]impl.Call, p + q) -/
theorem make_calls (w : World) (p q : Nat) (h : p + q ≤ 1000) : ∃ w', (Instr.makeSlice 22 (.int .i64 ((p : Int) + (q : Int))) (.int .i64 ((p : Int) + (q : Int)))).run Try.prog w = .ok (.slice (some ⟨w.heap.size, 0, none⟩) (p + q) (p + q)) w' ∧ FillAt w w' w.heap.size (p + q) (List.replicate (p + q) cZero) := by
  obtain ⟨i, hi, hz, hs, hb⟩ := info_parts Try.infoICall
  obtain ⟨w', h1, h2, h3⟩ := run_make_full w w.heap.size 22 32 i _ 8 Try.underlying22 hi hz hs .i64 .i64 (p + q) (by rw [hb]; omega) (by have : maxLen = 9223372036854775807 := rfl; omega) (Nat.le_refl _)
  rw [zeros_cells] at h2
  rw [Int.natCast_add] at h1
  exact ⟨w', h1, h2, by simp, (Below.refl _ w).grown h3 (Nat.le_refl _) (fun k e => by cases e)⟩
/-- What is known behind the first loop. -/
structure Sorted2 (w wr : World) (a b : List Cl) (pa pb : List Nat) (u v : Value) : Prop where
  turns : Turns (a.length + b.length) pa pb
  la : pa.length = a.length
  lb : pb.length = b.length
  ix : IxAt w wr pa pb u v

set_option maxHeartbeats 16000000 in
theorem indep_c {w : World} {v1 v2 v3 : Value} {a b : List Cl} {F : List Bool} (s1 : Scr w v1 a) (s2 : Scr w v2 b) (hF : Sl w v3 F.length (F.flatMap fun x => [.bool x])) (hla : a.length ≤ 1099511627776) (hlb : b.length ≤ 1099511627776) (hlF : F.length ≤ 4611686018427387904) :
    Calls Try.prog 3 #[v1, v2, v3] w fun r w' => r = .returned (.bool true) ∧ Below w.heap.size w w' := by
  have DA := Lib.hid (defined_c s1.sl hla)
  have SA := Lib.hid s1; have SB := Lib.hid s2; have SF := Lib.hid hF
  obtain ⟨a1, a2, rfl⟩ := s1.form
  obtain ⟨b1, b2, rfl⟩ := s2.form
  obtain ⟨f1, f2, rfl, _⟩ := hF
  clear s1 s2
  go_enter Try.func3, Try.ntmps3
  go_wp2_with fail
  refine DA.out.mono ?_
  rintro r w1 ⟨hb1, hcase⟩
  have B1 := Lib.hid hb1
  have DB := Lib.hid (defined_c (SB.out.sl.later hb1) hlb)
  clear hb1 DA
  rcases hcase with ⟨hoka, ra, ro, rfl, rra, rro⟩ | ⟨hoka, rfl⟩
  case inr =>
    clear hoka
    go_wp2_with fail
    refine DB.out.mono ?_
    rintro r w2 ⟨hb2, hcase⟩
    have B2 := Lib.hid (B1.out.trans (hb2.mono B1.out.size))
    clear hb2
    rcases hcase with ⟨hokb, rb, ro2, rfl, rrb, rro2⟩ | ⟨hokb, rfl⟩
    all_goals
      clear hokb
      go_wp2
      go_ret
      exact ⟨rfl, B2.out⟩
  case inl =>
    have OKA := Lib.hid hoka; have RO := Lib.hid rro
    clear hoka rra rro
    go_wp2_with fail
    refine DB.out.mono ?_
    rintro r w2 ⟨hb2, hcase⟩
    have B2 := Lib.hid (B1.out.trans (hb2.mono B1.out.size))
    have RO2 := Lib.hid (own_below RO.out hb2)
    clear hb2 DB RO
    rcases hcase with ⟨hokb, rb, ro2, rfl, rrb, rro2⟩ | ⟨hokb, rfl⟩
    case inr =>
      clear hokb
      go_wp2
      go_ret
      exact ⟨rfl, B2.out⟩
    case inl =>
      have OKB := Lib.hid hokb; have ROB := Lib.hid rro2
      clear hokb rrb rro2
      by_cases hbig : a.length + b.length > 1000
      · have q : decide ((a.length : Int) + (b.length : Int) > 1000) = true := by simp; omega
        go_wp2
        go_ret
        exact ⟨rfl, B2.out⟩
      · have q : decide ((a.length : Int) + (b.length : Int) > 1000) = false := by simp; omega
        have hab : a.length + b.length ≤ 1000 := by omega
        clear hbig
        have SF2 := Lib.hid (Sl.later SF.out B2.out)
        go_wp2_with fail
        go_loopg [13, 14, 56] (a.length + b.length) (fun n u v k wr => ∃ j pa pb, j + n = a.length + b.length ∧ k = .int .i64 (j : Nat) ∧ Turns j pa pb ∧ pa.length ≤ a.length ∧ pb.length ≤ b.length ∧ IxAt w2 wr pa pb u v)
        case atStart => exact ⟨0, [], [], by omega, rfl, .zero, by simp, by simp, ⟨World.ownsRow_nil _ _ _ _, World.ownsRow_nil _ _ _ _, fun k q => by simp [Value.ownBlock] at q, Below.refl _ _⟩⟩
        case round =>
          clear q
          obtain ⟨j, pa, pb, hj, rfl, ht, hpa, hpb, hI⟩ := hrel
          have hsum := ht.facts.1
          obtain ⟨m1, m2, rfl⟩ := own_len hI.m
          obtain ⟨y1, y2, rfl⟩ := own_len hI.y
          have HT := Lib.hid ht; have HI := Lib.hid hI; have HJ := Lib.hid hj
          have szr := hI.below.size
          by_cases hk0 : gk = 0
          · subst hk0
            obtain rfl : a.length + b.length = j := by omega
            have G : Hid (Sorted2 w2 wr a b pa pb (.slice m1 pa.length m2) (.slice y1 pb.length y2)) := ⟨HT.out, by omega, by omega, hI⟩
            have SHA := Lib.hid (shifted_c (SA.out.later (B2.out.trans (hI.below.mono B2.out.size))) (Nats.of_own hI.m) (by omega) hla)
            have BR := Lib.hid (B2.out.trans (hI.below.mono B2.out.size))
            obtain ⟨wo, rfl⟩ : ∃ wo, wo = wr := ⟨_, rfl⟩
            clear hj ht hI HI HT HJ hpa hpb hsum SF SF2
            go_wp2_with fail
            refine SHA.out.mono ?_
            rintro r w3 ⟨x, rfl, rx, hb3⟩
            obtain ⟨x1, x2, rfl⟩ := own_len rx
            have B3 := Lib.hid (BR.out.trans (hb3.mono BR.out.size))
            have B23 := Lib.hid (G.out.ix.below.trans (hb3.mono G.out.ix.below.size))
            have IX3 := Lib.hid (show Nats w3 (.slice m1 pa.length m2) pa ∧ Nats w3 (.slice y1 pb.length y2) pb from ⟨(Nats.of_own G.out.ix.m).later hb3, (Nats.of_own G.out.ix.y).later hb3⟩)
            have RX := Lib.hid rx
            have SHB := Lib.hid (shifted_c (SB.out.later B3.out) IX3.out.2 (by have := G.out.lb; omega) hlb)
            clear hb3 rx SHA
            go_wp2_with fail
            refine SHB.out.mono ?_
            rintro r w4 ⟨y, rfl, ry, hb4⟩
            obtain ⟨z1, z2, rfl⟩ := own_len ry
            have B4 := Lib.hid (B3.out.trans (hb4.mono B3.out.size))
            have B24 := Lib.hid (B23.out.trans (hb4.mono B23.out.size))
            have NA := Lib.hid (IX3.out.1.later hb4)
            have NB := Lib.hid (IX3.out.2.later hb4)
            have RX4 := Lib.hid (own_below RX.out hb4)
            have RY := Lib.hid ry
            obtain ⟨w5, hmk, hfill⟩ := make_calls w4 a.length b.length hab
            have FL := Lib.hid hfill
            have BF := Lib.hid (fun (wz : World) (hz : Below w4.heap.size w4 wz) => B4.out.trans (hz.mono B4.out.size))
            clear hb4 ry SHB IX3 RX hfill
            go_wp2_with fail
            go_loopg [107] pa.length (fun n k wr => ∃ j M, j + n = pa.length ∧ k = .int .i64 (j : Nat) ∧ FillAt w4 wr w4.heap.size (a.length + b.length) M ∧ Put a M pa j)
            case atStart => exact ⟨0, _, by omega, rfl, FL.out, fun k p hk => by omega⟩
            case round =>
              clear FL hmk
              obtain ⟨j, M, hj, rfl, hL, hP⟩ := hrel
              have HL := Lib.hid hL; have HP := Lib.hid hP; have HJ := Lib.hid hj
              by_cases hk0 : gk = 0
              · subst hk0
                obtain rfl : pa.length = j := by omega
                clear hL hP hj HJ
                have HP0 : Hid (Put b M pb 0) := fun k p hk => by omega
                go_wp2_with fail
                go_loopg [122] pb.length (fun n k wr => ∃ j M, j + n = pb.length ∧ k = .int .i64 (j : Nat) ∧ FillAt w4 wr w4.heap.size (a.length + b.length) M ∧ Put a M pa pa.length ∧ Put b M pb j)
                case atStart => exact ⟨0, M, by omega, rfl, HL.out, HP.out, HP0.out⟩
                case round =>
                  clear HL HP HP0
                  obtain ⟨j, M, hj, rfl, hL, hPa, hP⟩ := hrel
                  have HL := Lib.hid hL; have HPa := Lib.hid hPa; have HP := Lib.hid hP; have HJ := Lib.hid hj
                  by_cases hk0 : gk = 0
                  · subst hk0
                    obtain rfl : pb.length = j := by omega
                    have MX : Mixed a b M pa pb := ⟨G.out.la, G.out.lb, fun k p hk => hPa k p (List.getElem?_eq_some_iff.1 hk).1 hk, fun k p hk => hP k p (List.getElem?_eq_some_iff.1 hk).1 hk⟩
                    obtain ⟨okM, anA, anB⟩ := mix_run G.out.turns hL.len MX OKA.out OKB.out
                    have HVM : ∀ c ∈ M, c.v.ok := by
                      intro c hc
                      obtain ⟨p, hp⟩ := List.mem_iff_getElem?.1 hc
                      have hpl : p < a.length + b.length := by have := (List.getElem?_eq_some_iff.1 hp).1; have := hL.len; omega
                      rcases G.out.turns.apart.2 p hpl with q | q
                      · obtain ⟨k, hk⟩ := List.mem_iff_getElem?.1 q
                        have e := MX.ga k p hk
                        rw [hp] at e
                        cases hak : a[k]? with
                        | none => rw [hak] at e; simp at e
                        | some x => rw [hak] at e; simp at e; subst e; exact SA.out.ok x (List.mem_of_getElem? hak)
                      · obtain ⟨k, hk⟩ := List.mem_iff_getElem?.1 q
                        have e := MX.gb k p hk
                        rw [hp] at e
                        cases hbk : b[k]? with
                        | none => rw [hbk] at e; simp at e
                        | some x => rw [hbk] at e; simp at e; subst e; exact SB.out.ok x (List.mem_of_getElem? hbk)
                    have LM := Lib.hid hL.len
                    have LA := Lib.hid (show (ansFrom Md.init M).length = a.length + b.length by rw [ansFrom_length, hL.len])
                    have P1 := Lib.hid (play_any (w := wr) (v := .slice (some ⟨w4.heap.size, 0, none⟩) (a.length + b.length) (a.length + b.length)) (cs := M) (by rw [hL.len]; exact Sl.of_own hL.own) HVM okM (by decide) (by rw [hL.len]; omega))
                    have EA := Lib.hid (ans_back (M := M) G.out.la (fun p hp => by rw [hL.len]; exact G.out.turns.facts.2.1 p hp) anA)
                    have EB := Lib.hid (ans_back (M := M) G.out.lb (fun p hp => by rw [hL.len]; exact G.out.turns.facts.2.2.1 p hp) anB)
                    have L6 := Lib.hid hL.below
                    clear hL hPa hP hj HJ HL HPa HP MX okM anA anB HVM
                    go_wp2_with fail
                    refine P1.out.mono ?_
                    rintro r w7 ⟨og, rfl, rg, hb7⟩
                    rw [LM.out] at rg
                    have L7 := Lib.hid (L6.out.trans (hb7.mono L6.out.size))
                    obtain ⟨g1, g2, rfl⟩ := own_len rg
                    have RG := Lib.hid rg
                    have SG : Hid (Sl w7 (.slice g1 (a.length + b.length) g2) (ansFrom Md.init M).length ((ansFrom Md.init M).flatMap An.cells)) := by rw [LA.out]; exact Sl.of_own rg
                    have AN := Lib.hid (answered_c SG.out (NA.out.later L7.out) (fun p hp => by rw [LA.out]; exact G.out.turns.facts.2.1 p hp) (by have := G.out.la; omega))
                    clear hb7 rg P1
                    go_wp2_with fail
                    refine AN.out.mono ?_
                    rintro r w8 ⟨o8, rfl, r8, hb8⟩
                    rw [EA.out] at r8
                    have L8 := Lib.hid (L7.out.trans (hb8.mono L7.out.size))
                    have SG8 := Lib.hid (SG.out.later hb8)
                    have PA := Lib.hid (play_any (SA.out.sl.later (BF.out _ L8.out)) SA.out.ok OKA.out (by decide) hla)
                    obtain ⟨h1, h2, rfl⟩ := own_len r8
                    have R8 := Lib.hid r8
                    clear hb8 r8 AN
                    go_wp2_with fail
                    refine PA.out.mono ?_
                    rintro r w9 ⟨o9, rfl, r9, hb9⟩
                    have L9 := Lib.hid (L8.out.trans (hb9.mono L8.out.size))
                    have SG9 := Lib.hid (SG8.out.later hb9)
                    have LAA := Lib.hid (show (ansFrom Md.init a).length = a.length from ansFrom_length a Md.init)
                    have LOA := Lib.hid (show (openFrom Md.init a).length = a.length from openFrom_length a Md.init)
                    have RO9 := Lib.hid (own_below (own_below RO2.out B24.out) L9.out)
                    have G1 := Lib.hid (agree_c (w := w9) (va := .slice h1 pa.length h2) (vb := o9) (vo := ro) (A := ansFrom Md.init a) (O := openFrom Md.init a) (by rw [LAA.out, ← G.out.la]; exact (Sl.of_own R8.out).later hb9) (by rw [LAA.out]; exact Sl.of_own r9) (by rw [LAA.out]; have := Sl.of_own RO9.out; rw [flat_bools] at this; exact this) (by rw [LAA.out, LOA.out]) (by rw [LAA.out]; omega))
                    clear hb9 r9 PA
                    go_wp2_with fail
                    refine G1.out.mono ?_
                    rintro r wa ⟨rfl, d, rfl⟩
                    have LD := Lib.hid (Below.drewN' L9.out d)
                    have ANB := Lib.hid (answered_c (w := w9.drewN d) (A := ansFrom Md.init M) (P := pb) (SG9.out.later (Below.drewN' (Below.refl _ _) d)) (NB.out.later LD.out) (fun p hp => by rw [LA.out]; exact G.out.turns.facts.2.2.1 p hp) (by have := G.out.lb; omega))
                    clear G1
                    go_wp2_with fail
                    refine ANB.out.mono ?_
                    rintro r w10 ⟨o10, rfl, r10, hb10⟩
                    rw [EB.out] at r10
                    have L10 := Lib.hid (LD.out.trans (hb10.mono LD.out.size))
                    have PB := Lib.hid (play_any (SB.out.sl.later (BF.out _ L10.out)) SB.out.ok OKB.out (by decide) hlb)
                    obtain ⟨i1, i2, rfl⟩ := own_len r10
                    have R10 := Lib.hid r10
                    clear hb10 r10 ANB
                    go_wp2_with fail
                    refine PB.out.mono ?_
                    rintro r w11 ⟨o11, rfl, r11, hb11⟩
                    have L11 := Lib.hid (L10.out.trans (hb11.mono L10.out.size))
                    have LAB := Lib.hid (show (ansFrom Md.init b).length = b.length from ansFrom_length b Md.init)
                    have LOB := Lib.hid (show (openFrom Md.init b).length = b.length from openFrom_length b Md.init)
                    have RB11 := Lib.hid (own_below (own_below ROB.out B24.out) L11.out)
                    have G2 := Lib.hid (agree_c (w := w11) (va := .slice i1 pb.length i2) (vb := o11) (vo := ro2) (A := ansFrom Md.init b) (O := openFrom Md.init b) (by rw [LAB.out, ← G.out.lb]; exact (Sl.of_own R10.out).later hb11) (by rw [LAB.out]; exact Sl.of_own r11) (by rw [LAB.out]; have := Sl.of_own RB11.out; rw [flat_bools] at this; exact this) (by rw [LAB.out, LOB.out]) (by rw [LAB.out]; omega))
                    clear hb11 r11 PB
                    go_wp2_with fail
                    refine G2.out.mono ?_
                    rintro r wa ⟨rfl, d2, rfl⟩
                    go_wp2
                    go_ret
                    exact ⟨rfl, Below.drewN' (BF.out _ L11.out) d2⟩
                  · have hjl : j < pb.length := by omega
                    obtain ⟨p, hget⟩ : ∃ p, pb[j]? = some p := ⟨_, List.getElem?_eq_getElem hjl⟩
                    have hpl : p < a.length + b.length := G.out.turns.facts.2.2.1 p (List.mem_of_getElem? hget)
                    have hja : j < b.length := by have := G.out.lb; omega
                    obtain ⟨c, hc⟩ : ∃ c, b[j]? = some c := ⟨_, List.getElem?_eq_getElem hja⟩
                    have hcs : (b.map (shiftC pb))[j]? = some (shiftC pb c) := by rw [List.getElem?_map, hc]; rfl
                    obtain ⟨b1', o1', c1', hv1, cell1⟩ := (NB.out.later hL.below).cells (by intro q; rw [q] at hget; simp at hget)
                    have RXr := own_below RY.out hL.below
                    obtain ⟨xb, xc, hv2⟩ := own_form RXr (by omega)
                    simp only [Value.slice.injEq] at hv1 hv2
                    obtain ⟨rfl, hz1, rfl⟩ := hv1
                    obtain ⟨rfl, hz2, rfl⟩ := hv2
                    have ep := cell1 j p hget
                    have ex : ∀ i z, (shiftC pb c).cells[i]? = some z → wr.cell? ⟨xb, j * 8 + i, none⟩ = some z := fun i z hz => own_elem Cl.cells_length RXr (by simp) hcs hz
                    have x0 := ex 0 _ rfl; have x1 := ex 1 _ rfl; have x2 := ex 2 _ rfl; have x3 := ex 3 _ rfl; have x4 := ex 4 _ rfl; have x5 := ex 5 _ rfl; have x6 := ex 6 _ rfl; have x7 := ex 7 _ rfl
                    obtain ⟨d, hd⟩ : ∃ d, M[p]? = some d := ⟨_, List.getElem?_eq_getElem (by rw [hL.len]; exact hpl)⟩
                    have ed : ∀ i z, d.cells[i]? = some z → wr.cell? ⟨w4.heap.size, p * 8 + i, none⟩ = some z := fun i z hz => own_elem Cl.cells_length hL.own hL.len hd hz
                    have d0 := ed 0 _ rfl; have d1 := ed 1 _ rfl; have d2 := ed 2 _ rfl; have d3 := ed 3 _ rfl; have d4 := ed 4 _ rfl; have d5 := ed 5 _ rfl; have d6 := ed 6 _ rfl; have d7 := ed 7 _ rfl
                    have zf : ∀ i, wr.frozen? ⟨w4.heap.size, i, none⟩ = false := fun i => hL.own.frozenAt i
                    have z0 := zf (p * 8 + 0); have z1 := zf (p * 8 + 1); have z2 := zf (p * 8 + 2); have z3 := zf (p * 8 + 3); have z4 := zf (p * 8 + 4); have z5 := zf (p * 8 + 5); have z6 := zf (p * 8 + 6); have z7 := zf (p * 8 + 7)
                    have z8 := zf (p * 8)
                    simp only [Nat.add_zero] at x0 d0 z0
                    have N2 := Lib.hid (hL.next hpl (shiftC pb c))
                    have NP := Lib.hid (put_next hP G.out.turns.facts.2.2.2.2 hget hc (by rw [hL.len]; exact hpl))
                    have NO : Hid (Put a (M.set p (shiftC pb c)) pa pa.length) := put_other HPa.out (List.mem_of_getElem? hget) G.out.turns.apart.1
                    clear hL hP hj hget cell1 RXr hz1 hz2 ex ed hd hcs hc zf hPa
                    go_wp2
                    go_roundg (gk - 1)
                    case measure => omega
                    case rel => exact ⟨j + 1, _, by have := HJ.out; omega, by go_num, N2.out, NO.out, NP.out⟩
              · have hjl : j < pa.length := by omega
                obtain ⟨p, hget⟩ : ∃ p, pa[j]? = some p := ⟨_, List.getElem?_eq_getElem hjl⟩
                have hpl : p < a.length + b.length := G.out.turns.facts.2.1 p (List.mem_of_getElem? hget)
                have hja : j < a.length := by have := G.out.la; omega
                obtain ⟨c, hc⟩ : ∃ c, a[j]? = some c := ⟨_, List.getElem?_eq_getElem hja⟩
                have hcs : (a.map (shiftC pa))[j]? = some (shiftC pa c) := by rw [List.getElem?_map, hc]; rfl
                obtain ⟨b1', o1', c1', hv1, cell1⟩ := (NA.out.later hL.below).cells (by intro q; rw [q] at hget; simp at hget)
                have RXr := own_below RX4.out hL.below
                obtain ⟨xb, xc, hv2⟩ := own_form RXr (by omega)
                simp only [Value.slice.injEq] at hv1 hv2
                obtain ⟨rfl, hz1, rfl⟩ := hv1
                obtain ⟨rfl, hz2, rfl⟩ := hv2
                have ep := cell1 j p hget
                have ex : ∀ i z, (shiftC pa c).cells[i]? = some z → wr.cell? ⟨xb, j * 8 + i, none⟩ = some z := fun i z hz => own_elem Cl.cells_length RXr (by simp) hcs hz
                have x0 := ex 0 _ rfl; have x1 := ex 1 _ rfl; have x2 := ex 2 _ rfl; have x3 := ex 3 _ rfl; have x4 := ex 4 _ rfl; have x5 := ex 5 _ rfl; have x6 := ex 6 _ rfl; have x7 := ex 7 _ rfl
                obtain ⟨d, hd⟩ : ∃ d, M[p]? = some d := ⟨_, List.getElem?_eq_getElem (by rw [hL.len]; exact hpl)⟩
                have ed : ∀ i z, d.cells[i]? = some z → wr.cell? ⟨w4.heap.size, p * 8 + i, none⟩ = some z := fun i z hz => own_elem Cl.cells_length hL.own hL.len hd hz
                have d0 := ed 0 _ rfl; have d1 := ed 1 _ rfl; have d2 := ed 2 _ rfl; have d3 := ed 3 _ rfl; have d4 := ed 4 _ rfl; have d5 := ed 5 _ rfl; have d6 := ed 6 _ rfl; have d7 := ed 7 _ rfl
                have zf : ∀ i, wr.frozen? ⟨w4.heap.size, i, none⟩ = false := fun i => hL.own.frozenAt i
                have z0 := zf (p * 8 + 0); have z1 := zf (p * 8 + 1); have z2 := zf (p * 8 + 2); have z3 := zf (p * 8 + 3); have z4 := zf (p * 8 + 4); have z5 := zf (p * 8 + 5); have z6 := zf (p * 8 + 6); have z7 := zf (p * 8 + 7)
                have z8 := zf (p * 8)
                simp only [Nat.add_zero] at x0 d0 z0
                have N2 := Lib.hid (hL.next hpl (shiftC pa c))
                have NP := Lib.hid (put_next hP G.out.turns.facts.2.2.2.1 hget hc (by rw [hL.len]; exact hpl))
                clear hL hP hj hget cell1 RXr hz1 hz2 ex ed hd hcs hc zf
                go_wp2
                go_roundg (gk - 1)
                case measure => omega
                case rel => exact ⟨j + 1, _, by have := HJ.out; omega, by go_num, N2.out, NP.out⟩
          · have hjl : j < a.length + b.length := by omega
            clear hj ht
            by_cases hf : j < F.length
            · obtain ⟨t, hget⟩ : ∃ t, F[j]? = some t := ⟨_, List.getElem?_eq_getElem hf⟩
              have q9 : decide (((j : Nat) : Int) < (F.length : Int)) = true := by simp; omega
              obtain ⟨b3, o3, c3, hv3, cell3⟩ := (Sl.later SF2.out hI.below).elem (f := fun x => [Value.bool x]) (sz := 1) (fun _ => rfl) (by decide) (by intro q; rw [q] at hget; simp at hget)
              simp only [Value.slice.injEq] at hv3
              obtain ⟨rfl, hz3, rfl⟩ := hv3
              have e3 : wr.cell? ⟨b3, o3 + j, none⟩ = some (.bool t) := by have := cell3 j t hget 0 _ rfl; simpa using this
              clear hz3 cell3 hget hI
              by_cases hy : pb.length = b.length
              · have q1 : ((pb.length : Int) == (b.length : Int)) = true := by simp; omega
                have hpa2 : pa.length < a.length := by omega
                clear hy hsum
                go_wp2_with (at_builtin; refine wpList_app2 rfl (.tmp 84) (.tmp 86) 27 rfl w2.heap.size 3 _ 1 8 Try.underlying27 Try.infoInt rfl (by decide) _ _ _ rfl (HI.out.m.alloc _) _ 1 [.int .i64 (j : Nat)] rfl (sl_at' _ _ _ _ _ _ (by simp)) rfl (by simp [Value.oneCell']) (.inr (.inr (by decide))) (by omega) (by decide) (by simp; omega) ?_; intro v' w3 hown hg hn; have N2 := Lib.hid (HI.out.next hown hg hn); clear hown hg hn)
                go_roundg (gk - 1)
                case measure => omega
                case rel => exact ⟨j + 1, pa ++ [j], pb, by have := HJ.out; omega, by go_num, HT.out.mine, by simp; omega, by omega, N2.out⟩
              · have q1 : ((pb.length : Int) == (b.length : Int)) = false := by simp; omega
                have hpb2 : pb.length < b.length := by omega
                clear hy hsum
                cases t with
                | false =>
                  go_wp2_with (at_builtin; refine wpList_app2 rfl (.tmp 88) (.tmp 90) 27 rfl w2.heap.size 3 _ 1 8 Try.underlying27 Try.infoInt rfl (by decide) _ _ _ rfl (HI.out.y.alloc _) _ 1 [.int .i64 (j : Nat)] rfl (sl_at' _ _ _ _ _ _ (by simp)) rfl (by simp [Value.oneCell']) (.inr (.inr (by decide))) (by omega) (by decide) (by simp; omega) ?_; intro v' w3 hown hg hn; have N2 := Lib.hid ((HI.out.swap.next hown hg hn).swap); clear hown hg hn)
                  go_roundg (gk - 1)
                  case measure => omega
                  case rel => exact ⟨j + 1, pa, pb ++ [j], by have := HJ.out; omega, by go_num, HT.out.yours, by omega, by simp; omega, N2.out⟩
                | true =>
                  by_cases hm : pa.length < a.length
                  · have q2 : decide ((pa.length : Int) < (a.length : Int)) = true := by simp; omega
                    go_wp2_with (at_builtin; refine wpList_app2 rfl (.tmp 84) (.tmp 86) 27 rfl w2.heap.size 3 _ 1 8 Try.underlying27 Try.infoInt rfl (by decide) _ _ _ rfl (HI.out.m.alloc _) _ 1 [.int .i64 (j : Nat)] rfl (sl_at' _ _ _ _ _ _ (by simp)) rfl (by simp [Value.oneCell']) (.inr (.inr (by decide))) (by omega) (by decide) (by simp; omega) ?_; intro v' w3 hown hg hn; have N2 := Lib.hid (HI.out.next hown hg hn); clear hown hg hn)
                    go_roundg (gk - 1)
                    case measure => omega
                    case rel => exact ⟨j + 1, pa ++ [j], pb, by have := HJ.out; omega, by go_num, HT.out.mine, by simp; omega, by omega, N2.out⟩
                  · have q2 : decide ((pa.length : Int) < (a.length : Int)) = false := by simp; omega
                    go_wp2_with (at_builtin; refine wpList_app2 rfl (.tmp 88) (.tmp 90) 27 rfl w2.heap.size 3 _ 1 8 Try.underlying27 Try.infoInt rfl (by decide) _ _ _ rfl (HI.out.y.alloc _) _ 1 [.int .i64 (j : Nat)] rfl (sl_at' _ _ _ _ _ _ (by simp)) rfl (by simp [Value.oneCell']) (.inr (.inr (by decide))) (by omega) (by decide) (by simp; omega) ?_; intro v' w3 hown hg hn; have N2 := Lib.hid ((HI.out.swap.next hown hg hn).swap); clear hown hg hn)
                    go_roundg (gk - 1)
                    case measure => omega
                    case rel => exact ⟨j + 1, pa, pb ++ [j], by have := HJ.out; omega, by go_num, HT.out.yours, by omega, by simp; omega, N2.out⟩
            · have q9 : decide (((j : Nat) : Int) < (F.length : Int)) = false := by simp; omega
              clear hI
              by_cases hy : pb.length = b.length
              · have q1 : ((pb.length : Int) == (b.length : Int)) = true := by simp; omega
                have hpa2 : pa.length < a.length := by omega
                clear hy hsum
                go_wp2_with (at_builtin; refine wpList_app2 rfl (.tmp 84) (.tmp 86) 27 rfl w2.heap.size 3 _ 1 8 Try.underlying27 Try.infoInt rfl (by decide) _ _ _ rfl (HI.out.m.alloc _) _ 1 [.int .i64 (j : Nat)] rfl (sl_at' _ _ _ _ _ _ (by simp)) rfl (by simp [Value.oneCell']) (.inr (.inr (by decide))) (by omega) (by decide) (by simp; omega) ?_; intro v' w3 hown hg hn; have N2 := Lib.hid (HI.out.next hown hg hn); clear hown hg hn)
                go_roundg (gk - 1)
                case measure => omega
                case rel => exact ⟨j + 1, pa ++ [j], pb, by have := HJ.out; omega, by go_num, HT.out.mine, by simp; omega, by omega, N2.out⟩
              · have q1 : ((pb.length : Int) == (b.length : Int)) = false := by simp; omega
                have hpb2 : pb.length < b.length := by omega
                clear hy hsum
                go_wp2_with (at_builtin; refine wpList_app2 rfl (.tmp 88) (.tmp 90) 27 rfl w2.heap.size 3 _ 1 8 Try.underlying27 Try.infoInt rfl (by decide) _ _ _ rfl (HI.out.y.alloc _) _ 1 [.int .i64 (j : Nat)] rfl (sl_at' _ _ _ _ _ _ (by simp)) rfl (by simp [Value.oneCell']) (.inr (.inr (by decide))) (by omega) (by decide) (by simp; omega) ?_; intro v' w3 hown hg hn; have N2 := Lib.hid ((HI.out.swap.next hown hg hn).swap); clear hown hg hn)
                go_roundg (gk - 1)
                case measure => omega
                case rel => exact ⟨j + 1, pa, pb ++ [j], by have := HJ.out; omega, by go_num, HT.out.yours, by omega, by simp; omega, N2.out⟩
end Bead
end Go.Proofs.Ytidnmanljdadaaa
