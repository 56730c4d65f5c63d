/- laws.listed. -/
import Derived.Test.YtidnmanljdadaaaScripts
import Derived.Test.YtidnmanljdadaaaPlain
import Derived.Test.YtidnmanljdadaaaSight
set_option linter.all false
namespace Go.Proofs.Ytidnmanljdadaaa
open Go.RowKit
namespace Bead
set_option maxRecDepth 100000

theorem ok_end {most : Nat} {cs : List Cl} (ho : okFrom most Md.init cs = true) {l : Nat} (hl : (runFrom Md.init cs).isL l = true) : okFrom most Md.init (cs ++ [cLen l]) = true := ok_len ho hl
theorem one_ok {cs : List Cl} {c : Cl} (h : ∀ x ∈ cs, x.v.ok) (hc : c.v.ok) : ∀ x ∈ cs ++ [c], x.v.ok := fun x hx => by
  rcases List.mem_append.1 hx with q | q
  · exact h x q
  · simp at q; subst q; exact hc

set_option maxHeartbeats 4000000 in
theorem listed_f {w : World} {v : Value} {cs : List Cl} {l : Nat} (s : Scr w v cs) (hok : okFrom 500 Md.init cs = true) (hl : (runFrom Md.init cs).isL l = true) (hn : cs.length ≤ 549755813888) :
    Calls Try.prog 33 #[v, .int .i64 l] w fun r w' => ∃ v2 v3, r = .returned (.tuple #[v2, v3]) ∧ Scr w' v2 (cs ++ (runFrom Md.init cs).walk false l) ∧
      w'.ownsRow w.heap.size 3 1 v3 ((runFrom Md.init cs).seq l).length (ints ((runFrom Md.init cs).names ((runFrom Md.init cs).seq l))) ∧ Below w.heap.size w w' ∧ ∀ b, v2.ownBlock = some b → w.heap.size ≤ b := by
  have hw := WF.run cs WF.init hok
  have hnl : ((runFrom Md.init cs).seq l).length ≤ 500 := by
    have := hw.seq_le l
    have := run_cnt_le _ hok (by simp [Md.init])
    omega
  have S := Lib.hid s
  have HOK := Lib.hid hok; have HL := Lib.hid hl; have HW := Lib.hid hw
  have C1 := Lib.hid (clone_c s.sl s.fair (by omega))
  obtain ⟨sa, sc, rfl⟩ := s.form
  clear s hok hl hw
  go_enter Try.func33, Try.ntmps33
  go_wp2_with fail
  refine C1.out.mono ?_
  rintro r w1 ⟨vc, rfl, rc, hb1⟩
  have B1 := Lib.hid hb1
  have RC := Lib.hid rc
  have sz1 := hb1.size
  clear hb1 rc C1
  go_wp2_with (at_builtin; refine wpList_app2 rfl (.tmp 13) (.tmp 16) 22 rfl w.heap.size 32 _ 8 72 Try.underlying22 Try.infoICall rfl (by decide) _ _ _ rfl (RC.out.alloc _) _ 1 (cEnd false l).cells rfl (sl_at' _ _ _ _ _ _ (by simp)) rfl (by simp [Cl.cells, Value.oneCell']) (.inr (.inr (by decide))) (by omega) (by decide) (by simp; omega) ?_; intro v' w2 hown hg hn; have R0 := Lib.hid (RAt.start (rev := false) B1.out RC.out hown hg); clear hown hg hn)
  have C2 := Lib.hid (clone_c (S.out.sl.later R0.out.below) S.out.fair (by omega))
  refine C2.out.mono ?_
  rintro r w3 ⟨vd, rfl, rd, hb3⟩
  have B23 := Lib.hid hb3
  have RD := Lib.hid rd
  have sz2 := R0.out.below.size
  have sz3 := hb3.size
  clear hb3 rd C2
  go_wp2_with (at_builtin; refine wpList_app2 rfl (.tmp 20) (.tmp 23) 22 rfl w2.heap.size 32 _ 8 72 Try.underlying22 Try.infoICall rfl (by decide) _ _ _ rfl (RD.out.alloc _) _ 1 (cLen l).cells rfl (sl_at' _ _ _ _ _ _ (by simp)) rfl (by simp [Cl.cells, Value.oneCell']) (.inr (.inr (by decide))) (by omega) (by decide) (by simp; omega) ?_; intro v'' w4 hown hg hn; have O4 := Lib.hid hown; have B24 := Lib.hid (below_grown (w := w2) (B23.out.alloc sz3 _) (RD.out.alloc _) (Nat.le_refl _) hg); clear hown hg hn)
  have SL4 : Sl w4 v'' (cs ++ [cLen l]).length ((cs ++ [cLen l]).flatMap Cl.cells) := by
    have := Sl.of_own O4.out
    simpa [cells_app] using this
  have DF := Lib.hid (defined_c SL4 (by simp; omega))
  have R4 := Lib.hid (RAt.mk (own_below R0.out.own B24.out) (R0.out.below.trans (B24.out.mono R0.out.below.size)))
  clear SL4
  refine DF.out.mono ?_
  rintro r w5 ⟨hb5, hcase⟩
  rcases hcase with ⟨_, va, vo, rfl, ra, ro⟩ | ⟨hno, rfl⟩
  case inr => rw [ok_len HOK.out HL.out] at hno; simp at hno
  have R5 := Lib.hid (RAt.mk (own_below R4.out.own hb5) (R4.out.below.trans (hb5.mono R4.out.below.size)))
  have sz5 := R5.out.below.size
  rw [ansFrom_append, ans_len, List.length_append, List.length_singleton] at ra
  obtain ⟨g5, cap5, hva⟩ := own_form ra (by omega)
  subst hva
  have e5 : w5.cell? ⟨g5, cs.length * 5 + 1, none⟩ = some (.int .i64 (((runFrom Md.init cs).seq l).length : Nat)) := by
    refine own_elem (t := 1) An.cells_length ra (by rw [List.length_append, ansFrom_length]; rfl) (j := cs.length) (x := ⟨-1, (((runFrom Md.init cs).seq l).length : Nat), Vl.zero⟩) ?_ rfl
    rw [List.getElem?_append_right (by rw [ansFrom_length]; exact Nat.le_refl _), ansFrom_length]; simp
  have h5cap : cs.length + 1 ≤ cap5 := by
    rcases ra.2 with ⟨q, z⟩ | ⟨_, _, _, q, _, _, hz, _⟩
    · omega
    · simp only [Value.slice.injEq] at q; omega
  have SH : Sl w5 v' (cs ++ [cEnd false l]).length ((cs ++ [cEnd false l]).flatMap Cl.cells) := by
    have := Sl.of_own R5.out.own
    simpa [walkC] using this
  have C5 := Lib.hid (clone_c SH (own_fair R5.out.own) (by simp; omega))
  generalize hN : ((runFrom Md.init cs).seq l).length = N at *
  have HN := Lib.hid hN
  clear hN hb5 ra ro DF SH
  go_wp2_with fail
  refine C5.out.mono ?_
  rintro r w6 ⟨v6, rfl, r6, hb6⟩
  have e6 := (hb6.cell (p := ⟨g5, cs.length * 5 + 1, none⟩) (World.block_lt_of_cell? w5 _ e5)).trans e5
  have R6 : Hid (RAt w w6 cs false l 0 v6) := by
    refine ⟨?_, R5.out.below.trans (hb6.mono sz5)⟩
    have := own_base r6 sz5
    simpa [walkC] using this
  clear hb6 r6 C5 e5
  go_wp2_with fail
  go_loopg [4, 40] N (fun n v k wr => ∃ j, j + n = N ∧ k = .int .i64 j ∧ RAt w wr cs false l j v)
  case atStart => exact ⟨0, by omega, rfl, R6.out⟩
  case round =>
    clear R6 e6
    obtain ⟨j, hj, rfl, hR⟩ := hrel
    obtain ⟨x1, x2, hx⟩ := own_len hR.own
    subst hx
    have szr := hR.below.size
    have HR := Lib.hid hR; have HJ := Lib.hid hj
    clear hR
    by_cases hk0 : gk = 0
    · subst hk0
      obtain rfl : j = N := by omega
      clear hj
      have ec : walkC false l cs.length j = (runFrom Md.init cs).walk false l := by unfold Md.walk; rw [run_init_len, HN.out]
      have LW := walk_length (runFrom Md.init cs) false l
      rw [HN.out] at LW
      have SC : Scr wr (.slice x1 (cs.length + j + 1) x2) (cs ++ (runFrom Md.init cs).walk false l) := by
        have q := HR.out.own
        rw [ec] at q
        refine Scr.of_own (B := w.heap.size) (by rw [List.length_append, LW]; exact q) (fun c hc => ?_)
        rcases List.mem_append.1 hc with q | q
        · exact S.out.ok c q
        · exact walkC_ok c q
      have DF := Lib.hid (defined_c SC.sl (by rw [List.length_append, LW]; omega))
      have SC' := Lib.hid SC; have LW' := Lib.hid LW
      have AN := Lib.hid (walk_ans HW.out false HL.out)
      have NL := names_length (m := runFrom Md.init cs) ((runFrom Md.init cs).seq l)
      rw [HN.out] at NL
      have NL' := Lib.hid NL
      have OKW := Lib.hid (walk_okA HOK.out false HL.out)
      clear SC LW ec NL
      go_wp2_with fail
      refine DF.out.mono ?_
      rintro r w7 ⟨hb7, hcase⟩
      rcases hcase with ⟨_, va, vo7, rfl, ra, ro⟩ | ⟨hno, rfl⟩
      case inr => rw [OKW.out] at hno; simp at hno
      rw [ansFrom_append, AN.out, List.length_append, LW'.out] at ra
      have BL7 := Lib.hid (HR.out.below.trans (hb7.mono szr))
      have SC7 := Lib.hid (SC'.out.later hb7)
      change w7.ownsRow wr.heap.size 41 5 va (cs.length + (j + 1)) ((ansFrom Md.init cs ++ (((runFrom Md.init cs).names ((runFrom Md.init cs).seq l)).map (fun (n : Nat) => (⟨(n : Nat), 0, Vl.zero⟩ : An)) ++ [An.no])).flatMap An.cells) at ra
      generalize hNM : (runFrom Md.init cs).names ((runFrom Md.init cs).seq l) = NM at *
      have HNM := Lib.hid hNM
      obtain ⟨g7, cap7, hva⟩ := own_form ra (by omega)
      subst hva
      have h7cap : cs.length + (j + 1) ≤ cap7 := by
        rcases ra.2 with ⟨q, z⟩ | ⟨_, _, _, q, _, _, hz, _⟩
        · omega
        · simp only [Value.slice.injEq] at q; omega
      have hne7 : ¬ cap7 = cs.length := by omega
      have CELL : Hid (∀ (i x : Nat), NM[i]? = some x → ∀ t y, (⟨(x : Nat), 0, Vl.zero⟩ : An).cells[t]? = some y → w7.cell? ⟨g7, cs.length * 5 + i * 5 + t, none⟩ = some y) := fun i x hx t y hy => by
        have hi := (List.getElem?_eq_some_iff.1 hx).1
        have q := own_elem (t := t) (y := y) (j := cs.length + i) (x := ⟨(x : Nat), 0, Vl.zero⟩) An.cells_length ra (by rw [List.length_append, List.length_append, List.length_map, ansFrom_length, NL'.out]; rfl) (by
          rw [List.getElem?_append_right (by rw [ansFrom_length]; omega), ansFrom_length, Nat.add_sub_cancel_left, List.getElem?_append_left (by simpa using hi), List.getElem?_map, hx]; rfl) hy
        rw [Nat.add_mul] at q; exact q
      have B7 : Hid (g7 < w7.heap.size) := by have := (ra.lt g7 rfl).2; exact this
      clear hb7 ra ro DF hNM
      go_wp2_with fail
      rw [Nat.add_sub_cancel_left]
      go_loopg [5, 67] j (fun n v k wr' => ∃ i, i + n = j ∧ k = .int .i64 i ∧ EAt w7 wr' NM i v)
      case atStart => exact ⟨0, by omega, rfl, World.ownsRow_nil _ _ _ _, Below.refl _ _⟩
      case round =>
        obtain ⟨i, hi, rfl, hE⟩ := hrel
        by_cases hk0 : gk = 0
        · subst hk0
          obtain rfl : i = j := by omega
          have FIN : Hid (Scr wr (.slice x1 (cs.length + i + 1) x2) (cs ++ (runFrom Md.init cs).walk false l) ∧ wr.ownsRow w.heap.size 3 1 u5 ((runFrom Md.init cs).seq l).length (ints ((runFrom Md.init cs).names ((runFrom Md.init cs).seq l))) ∧ Below w.heap.size w wr) := by
            have own := hE.own
            rw [List.take_of_length_le (by rw [NL'.out]; exact Nat.le_refl _)] at own
            refine ⟨SC7.out.later hE.below, ?_, BL7.out.trans (hE.below.mono BL7.out.size)⟩
            rw [HN.out, HNM.out]
            exact own_base own BL7.out.size
          clear hE hi
          have FR : Hid (∀ b, (Value.slice x1 (cs.length + i + 1) x2).ownBlock = some b → w.heap.size ≤ b) := fun b q => (HR.out.own.lt b q).1
          go_wp2
          go_ret2
          exact ⟨_, _, rfl, FIN.out.1, FIN.out.2.1, FIN.out.2.2, FR.out⟩
        · have hil : i < NM.length := by rw [NL'.out]; omega
          obtain ⟨x, hx⟩ : ∃ x, NM[i]? = some x := ⟨_, List.getElem?_eq_getElem hil⟩
          have cc : ∀ t y, (⟨(x : Nat), 0, Vl.zero⟩ : An).cells[t]? = some y → wr.cell? ⟨g7, cs.length * 5 + i * 5 + t, none⟩ = some y := fun t y hy => (hE.below.cell (p := ⟨g7, cs.length * 5 + i * 5 + t, none⟩) B7.out).trans (CELL.out i x hx t y hy)
          have e0 := cc 0 _ rfl; have e1' := cc 1 _ rfl; have e2 := cc 2 _ rfl; have e3 := cc 3 _ rfl; have e4 := cc 4 _ rfl
          simp only [Nat.add_zero] at e0
          have szr := hE.below.size
          have HE := Lib.hid hE; have HX := Lib.hid hx; have HI := Lib.hid hi
          have hij : i < j := by omega
          clear hE hx hi cc hil
          go_wp2_with (at_builtin; refine wpList_app2 rfl (.tmp 71) (.tmp 74) 27 rfl w7.heap.size 3 _ 1 8 Try.underlying27 Try.infoInt rfl (by decide) _ _ _ rfl ((HE.out.own.alloc _).alloc _) _ 1 [.int .i64 (x : Nat)] rfl (sl_at' _ _ _ _ _ _ (by simp)) rfl (by simp [Value.oneCell']) (.inr (.inr (by decide))) (by omega) (by decide) (by simp; omega) ?_; intro v' w3 hown hg hn; have N2 := Lib.hid (HE.out.next HX.out hown hg); clear hown hg hn)
          go_roundg (gk - 1)
          case measure => omega
          case rel => exact ⟨i + 1, by have := HI.out; omega, by go_num, N2.out⟩
    · have hjn : j < N := by omega
      clear hj
      go_wp2_with (at_builtin; refine wpList_app2 rfl (.tmp 42) (.tmp 47) 22 rfl w.heap.size 32 _ 8 72 Try.underlying22 Try.infoICall rfl (by decide) _ _ _ rfl (HR.out.own.alloc _) _ 1 [.int .i64 (onOp false), .int .i64 0, .int .i64 0, .int .i64 ((cs.length : Int) + (j : Int)), .int .i64 0, .int .i64 0, .int .i64 0, .string ⟨#[]⟩] rfl (sl_at' _ _ _ _ _ _ (by simp)) rfl (by simp [Value.oneCell']) (.inr (.inr (by decide))) (by omega) (by decide) (by simp; omega) ?_; intro v' w3 hown hg hn; have N2 := Lib.hid (HR.out.next (cOn_cells false cs.length j) hown hg); clear hown hg hn)
      go_roundg (gk - 1)
      case measure => omega
      case rel => exact ⟨j + 1, by have := HJ.out; omega, by go_num, N2.out⟩
theorem listed_c {w : World} {v : Value} {cs : List Cl} {l : Nat} (s : Scr w v cs) (hok : okFrom 500 Md.init cs = true) (hl : (runFrom Md.init cs).isL l = true) (hn : cs.length ≤ 549755813888) :
    Calls Try.prog 33 #[v, .int .i64 l] w fun r w' => ∃ v2 v3, r = .returned (.tuple #[v2, v3]) ∧ Scr w' v2 (cs ++ (runFrom Md.init cs).walk false l) ∧
      w'.ownsRow w.heap.size 3 1 v3 ((runFrom Md.init cs).seq l).length (ints ((runFrom Md.init cs).names ((runFrom Md.init cs).seq l))) ∧ Below w.heap.size w w' :=
  (listed_f s hok hl hn).mono (fun _ _ ⟨v2, v3, h1, h2, h3, h4, _⟩ => ⟨v2, v3, h1, h2, h3, h4⟩)
end Bead
end Go.Proofs.Ytidnmanljdadaaa

/- laws.named, laws.known, laws.set. -/
namespace Go.Proofs.Ytidnmanljdadaaa
open Go.RowKit
namespace Bead
set_option maxRecDepth 100000

structure NAt (w wr : World) (cs : List Cl) (j : Nat) (v : Value) : Prop where
  scr : Scr wr v (cs ++ (runFrom Md.init cs).tour ((listsOf cs).take j))
  below : Below w.heap.size w wr
  new : 0 < j → ∀ b, v.ownBlock = some b → w.heap.size ≤ b

set_option maxHeartbeats 2000000 in
theorem named_f {w : World} {v : Value} {cs : List Cl} (s : Scr w v cs) (hok : okFrom 500 Md.init cs = true) (hn : cs.length ≤ 1048576) :
    Calls Try.prog 16 #[v] w fun r w' => ∃ v', r = .returned v' ∧ Scr w' v' (namedC cs) ∧ Below w.heap.size w w' ∧ (listsOf cs ≠ [] → ∀ b, v'.ownBlock = some b → w.heap.size ≤ b) := by
  have LS := Lib.hid (lists_c s (by omega))
  have S := Lib.hid s
  have hw := WF.run cs WF.init hok
  have hN : ∀ k, ((runFrom Md.init cs).seq k).length ≤ 500 := fun k => by
    have a := hw.seq_le k
    have b := run_cnt_le cs hok (by simp [Md.init])
    omega
  have hll : (listsOf cs).length ≤ cs.length := listsAt_length cs 0
  have STEP : Hid (∀ j l, (listsOf cs)[j]? = some l → okFrom 500 Md.init (cs ++ (runFrom Md.init cs).tour ((listsOf cs).take j)) = true ∧ (runFrom Md.init (cs ++ (runFrom Md.init cs).tour ((listsOf cs).take j))).isL l = true ∧ (cs ++ (runFrom Md.init cs).tour ((listsOf cs).take j)).length ≤ 549755813888 ∧
      cs ++ (runFrom Md.init cs).tour ((listsOf cs).take (j + 1)) = (cs ++ (runFrom Md.init cs).tour ((listsOf cs).take j)) ++ (runFrom Md.init (cs ++ (runFrom Md.init cs).tour ((listsOf cs).take j))).walk false l) := fun j l hl => by
    obtain ⟨h1, h2, h3, h4⟩ := tour_all (most := 500) ((listsOf cs).take j) hw (fun k hk => mem_lists k (List.mem_of_mem_take hk))
    have e : runFrom Md.init (cs ++ (runFrom Md.init cs).tour ((listsOf cs).take j)) = (runFrom Md.init cs).behindTour ((listsOf cs).take j) := by rw [runFrom_append, h2]
    obtain ⟨hj, e2⟩ := List.getElem?_eq_some_iff.1 hl
    refine ⟨by rw [okFrom_append, hok, h1]; rfl, by rw [e, (tour_ext _ _).isL]; exact mem_lists l (List.mem_of_getElem? hl), ?_, ?_⟩
    · have a := tour_length 500 ((listsOf cs).take j) (runFrom Md.init cs) hN
      have b : ((listsOf cs).take j).length ≤ cs.length := by rw [List.length_take]; omega
      have c := Nat.mul_le_mul_right 501 b
      rw [List.length_append]; omega
    · rw [e, List.take_succ_eq_append_getElem hj, e2, (tour_snoc _ _ _).1, List.append_assoc]
  clear s hok hw hN
  go_enter Try.func16, Try.ntmps16
  go_wp2_with fail
  refine LS.out.mono ?_
  rintro r w1 ⟨vl, rfl, rl, hb1⟩
  have B1 := Lib.hid hb1
  have NT : Hid (Nats w1 vl (listsOf cs)) := Nats.of_own rl
  obtain ⟨x1, x2, rfl⟩ := own_len rl
  clear hb1 rl LS
  go_wp2_with fail
  go_loopg [0, 8] (listsOf cs).length (fun n o k wr => ∃ j, j + n = (listsOf cs).length ∧ k = .int .i64 j ∧ NAt w1 wr cs j o)
  case atStart => exact ⟨0, by omega, rfl, by simpa [Md.tour] using S.out.later B1.out, Below.refl _ _, fun q => absurd q (by decide)⟩
  case round =>
    obtain ⟨j, hj, rfl, hA⟩ := hrel
    by_cases hk0 : gk = 0
    · subst hk0
      obtain rfl : j = (listsOf cs).length := by omega
      have sc := hA.scr
      rw [List.take_length] at sc
      have hfr : listsOf cs ≠ [] → ∀ b, u0.ownBlock = some b → w.heap.size ≤ b := fun q b hb => Nat.le_trans B1.out.size (hA.new (List.length_pos_iff.2 q) b hb)
      have F := Lib.hid (And.intro sc (And.intro (B1.out.trans (hA.below.mono B1.out.size)) hfr))
      clear hA hj sc hfr
      go_wp2
      go_ret
      exact ⟨_, rfl, F.out.1, F.out.2.1, F.out.2.2⟩
    · have hjl : j < (listsOf cs).length := by omega
      obtain ⟨l, hl⟩ : ∃ l, (listsOf cs)[j]? = some l := ⟨_, List.getElem?_eq_getElem hjl⟩
      obtain ⟨b1, o1, p1, hv1, cell1⟩ := NT.out.cells (by intro q; rw [q] at hl; simp at hl)
      simp only [Value.slice.injEq] at hv1
      obtain ⟨rfl, hz1, rfl⟩ := hv1
      clear hz1
      have hbl : b1 < w1.heap.size := World.block_lt_of_cell? w1 _ (cell1 j l hl)
      have e1 := (hA.below.cell (p := ⟨b1, o1 + j, none⟩) hbl).trans (cell1 j l hl)
      obtain ⟨q1, q2, q3, q4⟩ := STEP.out j l hl
      have SE := Lib.hid (listed_f hA.scr q1 q2 q3)
      have HA := Lib.hid hA; have HJ := Lib.hid hj; have Q4 := Lib.hid q4
      clear hA hl hj cell1 q1 q2 q3 q4
      go_wp2_with fail
      refine SE.out.mono ?_
      rintro r w2 ⟨v2, v3, rfl, s2, o2, hb2, hf2⟩
      rw [← Q4.out] at s2
      have N2 := Lib.hid (NAt.mk s2 (HA.out.below.trans (hb2.mono HA.out.below.size)) (fun _ b q => Nat.le_trans HA.out.below.size (hf2 b q)))
      clear s2 o2 hb2 hf2 SE
      go_wp2
      go_roundg (gk - 1)
      case measure => omega
      case rel => exact ⟨j + 1, by have := HJ.out; omega, by go_num, N2.out⟩
theorem named_c {w : World} {v : Value} {cs : List Cl} (s : Scr w v cs) (hok : okFrom 500 Md.init cs = true) (hn : cs.length ≤ 1048576) :
    Calls Try.prog 16 #[v] w fun r w' => ∃ v', r = .returned v' ∧ Scr w' v' (namedC cs) ∧ Below w.heap.size w w' :=
  (named_f s hok hn).mono (fun _ _ ⟨v', h1, h2, h3, _⟩ => ⟨v', h1, h2, h3⟩)

end Bead
end Go.Proofs.Ytidnmanljdadaaa

/- laws.set. -/
namespace Go.Proofs.Ytidnmanljdadaaa
open Go.RowKit
namespace Bead
set_option maxRecDepth 100000

def scene0 : Value := .agg #[.slice none 0 0, .int .i64 0, .slice none 0 0]
/-- What set returns: a scene, or that there is none. -/
def SetPost (w : World) (cs : List Cl) (r : Ending) (w' : World) : Prop :=
  Below w.heap.size w w' ∧ ((∃ (l : Nat) (vs ve : Value), r = .returned (.tuple #[.agg #[vs, .int .i64 l, ve], .bool true]) ∧ Scened (namedC cs) l ∧ okFrom 500 Md.init cs = true ∧ l ∈ listsOf cs ∧ Scr w' vs (namedC cs) ∧
    Nats w' ve ((runFrom Md.init (namedC cs)).names ((runFrom Md.init (namedC cs)).seq l))) ∨ r = .returned (.tuple #[scene0, .bool false]))
/-- The same, and that the scene lies in new memory. -/
def SetPostF (w : World) (cs : List Cl) (r : Ending) (w' : World) : Prop :=
  Below w.heap.size w w' ∧ ((∃ (l : Nat) (vs ve : Value), r = .returned (.tuple #[.agg #[vs, .int .i64 l, ve], .bool true]) ∧ Scened (namedC cs) l ∧ okFrom 500 Md.init cs = true ∧ l ∈ listsOf cs ∧ Scr w' vs (namedC cs) ∧
    Nats w' ve ((runFrom Md.init (namedC cs)).names ((runFrom Md.init (namedC cs)).seq l)) ∧ (∀ b, vs.ownBlock = some b → w.heap.size ≤ b) ∧ (∀ b, ve.ownBlock = some b → w.heap.size ≤ b) ∧ ∀ a n c, ve = .slice a n c → n ≤ c) ∨ r = .returned (.tuple #[scene0, .bool false]))

/-- The block of the result, as the last stores leave it. -/
def three (wr : World) (g : Nat) (a b c : Value) : World := ((wr.setCell ⟨g, 0, none⟩ a).setCell ⟨g, 1, none⟩ b).setCell ⟨g, 2, none⟩ c
theorem keeps3 (wr : World) (g : Nat) (a b c : Value) : Keeps (fun k => k = g) wr (three wr g a b c) :=
  have st : ∀ (x : World) (o : Nat) (v : Value), Keeps (fun k => k = g) wr x → Keeps (fun k => k = g) wr (x.setCell ⟨g, o, none⟩ v) := fun x o v h => h.setCell (p := ⟨g, o, none⟩) (fun _ => rfl) v
  st _ 2 c (st _ 1 b (st _ 0 a (Keeps.refl _ _)))
theorem cells3 {wr : World} {g : Nat} {p q r : Value} {t : TypeId} (h : wr.heap[g]? = some (.cells #[p, q, r] t (0, 0))) (a b c : Value) :
    (three wr g a b c).cell? ⟨g, 0, none⟩ = some a ∧ (three wr g a b c).cell? ⟨g, 1, none⟩ = some b ∧ (three wr g a b c).cell? ⟨g, 2, none⟩ = some c := by
  have hh : (three wr g a b c).heap[g]? = some (.cells #[a, b, c] t (0, 0)) := by
    have h1 := heap_set (o := 0) (v := a) h
    have h2 := heap_set (o := 1) (v := b) h1
    have h3 := heap_set (o := 2) (v := c) h2
    unfold three
    rw [h3]; rfl
  exact ⟨cell_of_heap hh rfl, cell_of_heap hh rfl, cell_of_heap hh rfl⟩

/-- A script does not lie in a scene's block. -/
theorem scr_not {w : World} {v : Value} {cs : List Cl} {g : Nat} {a a' : Option Addr} {n n' c c' : Nat} {z : Value} {t : TypeId} (h : Scr w v cs) (hne : cs ≠ []) (hg : w.heap[g]? = some (.cells #[.slice a n c, z, .slice a' n' c'] t (0, 0))) : ∀ b, v.ownBlock = some b → ¬ b = g := by
  rintro b hb rfl
  obtain ⟨b', off, cap, hv, hc⟩ := h.sl.elem Cl.cells_length (by decide) hne
  subst hv
  simp [Value.ownBlock] at hb
  subst hb
  obtain ⟨x, hx⟩ : ∃ x, cs[0]? = some x := ⟨_, List.getElem?_eq_getElem (List.length_pos_iff.2 hne)⟩
  have h0 := hc 0 x hx 0 _ rfl
  have h1 := hc 0 x hx 1 _ rfl
  have r : ∀ o, w.cell? ⟨b', o, none⟩ = (#[.slice a n c, z, .slice a' n' c'] : Array Value)[o]? := fun o => cell_of_row w b' o _ t (0, 0) hg
  rw [r] at h0 h1
  simp only [Nat.zero_mul, Nat.zero_add, Nat.add_zero] at h0 h1
  match off, h0, h1 with
  | 0, h0, _ => simp at h0
  | 1, _, h1 => simp at h1
  | 2, h0, _ => simp at h0
  | k + 3, h0, _ => simp at h0

set_option maxHeartbeats 4000000 in
theorem set_f {w : World} {v : Value} {cs : List Cl} (s : Scr w v cs) (hn : cs.length ≤ 1048576) (n : Int) :
    Calls Try.prog 29 #[v, .int .i64 n] w (SetPostF w cs) := by
  have LS := Lib.hid (fun o => lists_c (s.later (below1 w o)) (by omega))
  have S := Lib.hid s
  have hll : (listsOf cs).length ≤ cs.length := listsAt_length cs 0
  clear s
  go_enter Try.func29, Try.ntmps29
  go_wp2_with fail
  refine (LS.out _).mono ?_
  rintro r w1 ⟨vl, rfl, rl, hb1⟩
  have B1 := Lib.hid ((below1 w _).trans (hb1.mono (by simp)))
  have G1 := Lib.hid ((hb1.block w.heap.size (by simp)).trans (heap_alloc_new w _))
  have NT : Nats w1 vl (listsOf cs) := Nats.of_own rl
  clear hb1 rl LS
  by_cases hL : listsOf cs = []
  · have CH := Lib.hid (chosen_nil NT hL n)
    clear NT hL
    go_wp2_with fail
    refine CH.out.mono ?_
    rintro r w2 ⟨rfl, rfl⟩
    clear CH
    have c0 := cell_of_heap (o := 0) G1.out rfl
    have c1 := cell_of_heap (o := 1) G1.out rfl
    have c2 := cell_of_heap (o := 2) G1.out rfl
    have f0 : w2.frozen? ⟨w.heap.size, 0, none⟩ = false := free_of_heap G1.out
    have f1 : w2.frozen? ⟨w.heap.size, 1, none⟩ = false := free_of_heap G1.out
    have f2 : w2.frozen? ⟨w.heap.size, 2, none⟩ = false := free_of_heap G1.out
    go_wp2
    have kk := keeps3 w2 w.heap.size (.slice none 0 0) (.int .i64 0) (.slice none 0 0)
    obtain ⟨k0, k1, k2⟩ := cells3 G1.out (.slice none 0 0) (.int .i64 0) (.slice none 0 0)
    change bodyPost _ _ _ _ _ (three w2 w.heap.size (.slice none 0 0) (.int .i64 0) (.slice none 0 0))
    generalize three w2 w.heap.size (.slice none 0 0) (.int .i64 0) (.slice none 0 0) = X at kk k0 k1 k2 ⊢
    exact bodyPost_ret (v := .tuple #[scene0, .bool false]) (by simp [results, Try.results29, go_sem, scene0, k0, k1, k2]) rfl ⟨B1.out.trans (kk.below (fun k hk _ q => by omega) B1.out.size), .inr rfl⟩
  · have CH := Lib.hid (chosen_c NT hL (by omega) n)
    clear NT hL
    go_wp2_with fail
    refine CH.out.mono ?_
    rintro r w2 ⟨l, hl, rfl, rfl⟩
    have PM := Lib.hid (permittedL_c (S.out.sl.later B1.out) (by omega))
    have HL := Lib.hid hl
    clear CH hl
    go_wp2_with fail
    refine PM.out.mono ?_
    rintro r w3 ⟨rfl, hb3⟩
    have B3 := Lib.hid (B1.out.trans (hb3.mono B1.out.size))
    have G3 := Lib.hid ((hb3.block w.heap.size (Array.getElem?_eq_some_iff.1 G1.out).1).trans G1.out)
    clear hb3 PM
    cases hok : okFrom 500 Md.init cs with
    | false =>
      clear hok
      have c0 := cell_of_heap (o := 0) G3.out rfl
      have c1 := cell_of_heap (o := 1) G3.out rfl
      have c2 := cell_of_heap (o := 2) G3.out rfl
      have f0 : w3.frozen? ⟨w.heap.size, 0, none⟩ = false := free_of_heap G3.out
      have f1 : w3.frozen? ⟨w.heap.size, 1, none⟩ = false := free_of_heap G3.out
      have f2 : w3.frozen? ⟨w.heap.size, 2, none⟩ = false := free_of_heap G3.out
      go_wp2
      have kk := keeps3 w3 w.heap.size (.slice none 0 0) (.int .i64 0) (.slice none 0 0)
      obtain ⟨k0, k1, k2⟩ := cells3 G3.out (.slice none 0 0) (.int .i64 0) (.slice none 0 0)
      change bodyPost _ _ _ _ _ (three w3 w.heap.size (.slice none 0 0) (.int .i64 0) (.slice none 0 0))
      generalize three w3 w.heap.size (.slice none 0 0) (.int .i64 0) (.slice none 0 0) = X at kk k0 k1 k2 ⊢
      exact bodyPost_ret (v := .tuple #[scene0, .bool false]) (by simp [results, Try.results29, go_sem, scene0, k0, k1, k2]) rfl ⟨B3.out.trans (kk.below (fun k hk _ q => by omega) B3.out.size), .inr rfl⟩
    | true =>
      have HOK := Lib.hid hok
      have NM := Lib.hid (named_f (S.out.later B3.out) hok hn)
      have SCN := Lib.hid (named_scene hok hn HL.out)
      clear hok
      go_wp2_with fail
      refine NM.out.mono ?_
      rintro r w4 ⟨vs, rfl, s4, hb4, hf4⟩
      have F4 := Lib.hid (fun b q => Nat.le_trans B3.out.size (hf4 (fun z => by have := HL.out; rw [z] at this; simp at this) b q))
      have B4 := Lib.hid (B3.out.trans (hb4.mono B3.out.size))
      have G4 := Lib.hid ((hb4.block w.heap.size (Array.getElem?_eq_some_iff.1 G3.out).1).trans G3.out)
      have LD := Lib.hid (listed_c s4 SCN.out.ok SCN.out.lst (by have := SCN.out.len; omega))
      have S4 := Lib.hid s4
      clear s4 hb4 NM hf4
      go_wp2_with fail
      refine LD.out.mono ?_
      rintro r w5 ⟨v5, ve, rfl, _, o5, hb5⟩
      have B5 := Lib.hid (B4.out.trans (hb5.mono B4.out.size))
      have G5 := Lib.hid ((hb5.block w.heap.size (Array.getElem?_eq_some_iff.1 G4.out).1).trans G4.out)
      have S5 := Lib.hid (S4.out.later hb5)
      have O5 := Lib.hid o5
      obtain ⟨x1, x2, rfl⟩ := own_len o5
      obtain ⟨y1, y2, rfl⟩ := S4.out.form
      have c0 := cell_of_heap (o := 0) G5.out rfl
      have c1 := cell_of_heap (o := 1) G5.out rfl
      have c2 := cell_of_heap (o := 2) G5.out rfl
      have f0 : w5.frozen? ⟨w.heap.size, 0, none⟩ = false := free_of_heap G5.out
      have f1 : w5.frozen? ⟨w.heap.size, 1, none⟩ = false := free_of_heap G5.out
      have f2 : w5.frozen? ⟨w.heap.size, 2, none⟩ = false := free_of_heap G5.out
      have hne : namedC cs ≠ [] := by
        intro q
        have h1 : listsOf (namedC cs) = listsOf cs := named_lists cs
        have h2 := HL.out
        rw [← h1, q] at h2
        simp [listsOf, listsAt] at h2
      have NB := Lib.hid (scr_not S5.out hne G5.out)
      have NL := Lib.hid (names_length (m := runFrom Md.init (namedC cs)) ((runFrom Md.init (namedC cs)).seq l))
      clear hb5 o5 LD hne
      go_wp2
      have kk := keeps3 w5 w.heap.size (.slice y1 (namedC cs).length y2) (.int .i64 (l : Nat)) (.slice x1 ((runFrom Md.init (namedC cs)).seq l).length x2)
      obtain ⟨k0, k1, k2⟩ := cells3 G5.out (.slice y1 (namedC cs).length y2) (.int .i64 (l : Nat)) (.slice x1 ((runFrom Md.init (namedC cs)).seq l).length x2)
      change bodyPost _ _ _ _ _ (three w5 w.heap.size (.slice y1 (namedC cs).length y2) (.int .i64 (l : Nat)) (.slice x1 ((runFrom Md.init (namedC cs)).seq l).length x2))
      generalize three w5 w.heap.size (.slice y1 (namedC cs).length y2) (.int .i64 (l : Nat)) (.slice x1 ((runFrom Md.init (namedC cs)).seq l).length x2) = X at kk k0 k1 k2 ⊢
      refine bodyPost_ret (v := .tuple #[.agg #[.slice y1 (namedC cs).length y2, .int .i64 (l : Nat), .slice x1 ((runFrom Md.init (namedC cs)).seq l).length x2], .bool true]) (by simp [results, Try.results29, go_sem, k0, k1, k2]) rfl ⟨B5.out.trans (kk.below (fun k hk _ q => by omega) B5.out.size), .inl ⟨l, _, _, rfl, SCN.out, HOK.out, HL.out, ⟨S5.out.sl.keep kk NB.out, S5.out.fair, S5.out.ok⟩, ?_, F4.out, fun b q => Nat.le_trans B4.out.size (O5.out.lt b q).1, fun a n c q => by simp only [Value.slice.injEq] at q; obtain ⟨_, rfl, rfl⟩ := q; exact own_cap O5.out⟩⟩
      show Sl _ _ _ _
      rw [NL.out]
      refine Sl.keep (Sl.of_own O5.out) kk (fun b q r => ?_)
      have h1 := (O5.out.lt b q).1
      have h2 := (Array.getElem?_eq_some_iff.1 G4.out).1
      omega
theorem set_c {w : World} {v : Value} {cs : List Cl} (s : Scr w v cs) (hn : cs.length ≤ 1048576) (n : Int) :
    Calls Try.prog 29 #[v, .int .i64 n] w (SetPost w cs) :=
  (set_f s hn n).mono (fun _ _ ⟨h1, h2⟩ => ⟨h1, h2.imp (fun ⟨l, vs, ve, a, b, c, d, e, f, _⟩ => ⟨l, vs, ve, a, b, c, d, e, f⟩) id⟩)
end Bead
end Go.Proofs.Ytidnmanljdadaaa

/- laws.scene.with, laws.scene.value, laws.scene.first. -/
namespace Go.Proofs.Ytidnmanljdadaaa
open Go.RowKit
namespace Bead
set_option maxRecDepth 100000

structure WAt (w wr : World) (ns cl : List Cl) (l j : Nat) (v : Value) : Prop where
  own : wr.ownsRow (w.heap.size + 1) 32 8 v (ns.length + j) ((ns ++ (cl.take j).map (onL l)).flatMap Cl.cells)
  below : Below w.heap.size w wr
  cell : wr.cell? ⟨w.heap.size, 1, none⟩ = some (.int .i64 (l : Nat))
theorem WAt.next {w wr w2 : World} {ns cl : List Cl} {l j : Nat} {v v' : Value} {c : Cl} {o o' : Obj} (h : WAt w wr ns cl l j v) (hc : cl[j]? = some c)
    (hown : w2.ownsRow (w.heap.size + 1) 32 8 v' (ns.length + j + 1) ((ns ++ (cl.take j).map (onL l)).flatMap Cl.cells ++ (onL l c).cells)) (hg : ((wr.alloc o).alloc o').grownBy w2 v.ownBlock) : WAt w w2 ns cl l (j + 1) v' := by
  obtain ⟨hj, e⟩ := List.getElem?_eq_some_iff.1 hc
  have kg : Keeps (fun k => v.ownBlock = some k) wr w2 := (((Keeps.refl _ wr).alloc o).alloc o').grown hg (fun k q _ => q)
  refine ⟨?_, below_grown (below_alloc2 h.below o o') ((h.own.alloc o).alloc o') (Nat.le_succ _) hg, kg.cell h.cell (fun q => by have h1 : w.heap.size + 1 ≤ w.heap.size := (h.own.lt _ q).1; omega)⟩
  rw [List.take_succ_eq_append_getElem hj, List.map_append, ← List.append_assoc, cells_app (ns ++ _), e]
  simpa [Nat.add_assoc] using hown

set_option maxHeartbeats 4000000 in
theorem with_c {w : World} {vs ve vc : Value} {ns cl : List Cl} {l : Nat} (s : Scr w vs ns) (ss : Scr w vc cl) (he : ∃ a n c, ve = .slice a n c) (hn : ns.length + cl.length ≤ 1099511627776) :
    Calls Try.prog 30 #[.agg #[vs, .int .i64 (l : Nat), ve], vc] w fun r w' => ∃ v', r = .returned v' ∧ Scr w' v' (ns ++ cl.map (onL l)) ∧ Below w.heap.size w w' := by
  have CL := Lib.hid (fun o => clone_c (s.sl.later (below1 w o)) s.fair (by omega))
  have S := Lib.hid s; have SS := Lib.hid ss
  obtain ⟨y1, y2, rfl⟩ := s.form
  obtain ⟨z1, z2, rfl⟩ := ss.form
  obtain ⟨e1, e2, e3, rfl⟩ := he
  clear s ss
  go_enter Try.func30, Try.ntmps30
  go_wp2_with fail
  refine (CL.out _).mono ?_
  rintro r w1 ⟨v1, rfl, r1, hb1⟩
  have cl1 := (hb1.cell (p := ⟨w.heap.size, 1, none⟩) (by simp)).trans (cell_of_heap (o := 1) (heap_alloc_new w _) rfl)
  have B1 := Lib.hid ((below1 w _).trans (hb1.mono (by simp)))
  have W0 : Hid (WAt w w1 ns cl l 0 v1) := ⟨by simpa using r1, B1.out, cl1⟩
  have L1 := Lib.hid (show w.heap.size < w1.heap.size by have := hb1.size; simp at this; omega)
  clear r1 hb1 CL cl1
  go_wp2_with fail
  go_loopg [5, 13] cl.length (fun n o k wr => ∃ j, j + n = cl.length ∧ k = .int .i64 j ∧ WAt w wr ns cl l j o)
  case atStart => exact ⟨0, by omega, rfl, W0.out⟩
  case round =>
    clear W0 L1
    obtain ⟨j, hj, rfl, hA⟩ := hrel
    have hc1 := hA.cell
    have hlt : w.heap.size < wr.heap.size := World.block_lt_of_cell? wr _ hc1
    by_cases hk0 : gk = 0
    · subst hk0
      obtain rfl : j = cl.length := by omega
      have F : Hid (Scr wr u5 (ns ++ cl.map (onL l)) ∧ Below w.heap.size w wr) := by
        have own := hA.own
        rw [List.take_length] at own
        refine ⟨Scr.of_own (B := w.heap.size + 1) (by rw [List.length_append, List.length_map]; exact own) (fun c hc => ?_), hA.below⟩
        rcases List.mem_append.1 hc with q | q
        · exact S.out.ok c q
        · obtain ⟨d, hd, rfl⟩ := List.mem_map.1 q; exact SS.out.ok d hd
      clear hA hj hc1
      go_wp2
      go_ret
      exact ⟨_, rfl, F.out.1, F.out.2⟩
    · have hjl : j < cl.length := by omega
      obtain ⟨c, hget⟩ : ∃ c, cl[j]? = some c := ⟨_, List.getElem?_eq_getElem hjl⟩
      have hne : cl ≠ [] := by intro q; subst q; simp at hjl
      obtain ⟨b, off, cp, hv, hcell⟩ := SS.out.sl.elem Cl.cells_length (by decide) hne
      simp only [Value.slice.injEq] at hv
      obtain ⟨rfl, _, rfl⟩ := hv
      have hbw : b < w.heap.size := World.block_lt_of_cell? w ⟨b, off + (j * 8 + 0), none⟩ (hcell j c hget 0 _ rfl)
      have cc : ∀ t y, c.cells[t]? = some y → wr.cell? ⟨b, off + j * 8 + t, none⟩ = some y := fun t y hy => by
        rw [hA.below.cell (p := ⟨b, off + j * 8 + t, none⟩) hbw, Nat.add_assoc]; exact hcell j c hget t y hy
      have e0 := cc 0 _ rfl; have e1 := cc 1 _ rfl; have e2 := cc 2 _ rfl; have e3 := cc 3 _ rfl; have e4 := cc 4 _ rfl; have e5 := cc 5 _ rfl; have e6 := cc 6 _ rfl; have e7 := cc 7 _ rfl
      simp only [Nat.add_zero] at e0
      have HA := Lib.hid hA; have HG := Lib.hid hget; have HJ := Lib.hid hj
      have szr := hA.below.size
      obtain ⟨x1, x2, rfl⟩ := own_len hA.own
      clear hA hget hj cc hcell hne
      go_wp2_with (at_builtin; refine wpList_app2 rfl (.tmp 20) (.tmp 22) 22 rfl (w.heap.size + 1) 32 _ 8 72 Try.underlying22 Try.infoICall rfl (by decide) _ _ _ rfl ((HA.out.own.alloc _).alloc _) _ 1 (onL l c).cells rfl (sl_at' _ _ _ _ _ _ (by simp)) rfl (by simp [Cl.cells, Value.oneCell']) (.inr (.inr (by decide))) (by omega) (by decide) (by simp; omega) ?_; intro v' w3 hown hg hn; have N2 := Lib.hid (HA.out.next HG.out hown hg); clear hown hg hn)
      go_roundg (gk - 1)
      case measure => omega
      case rel => exact ⟨j + 1, by have := HJ.out; omega, by go_num, N2.out⟩

end Bead
end Go.Proofs.Ytidnmanljdadaaa

/- Scripts written out in the text; a scene's elements. -/
namespace Go.Proofs.Ytidnmanljdadaaa
open Go.RowKit
namespace Bead
set_option maxRecDepth 100000

theorem scr_lit (w : World) (cl : List Cl) (t : TypeId) (k n : Nat) (hk : w.heap.size = k) (hn : cl.length = n) (hc : ∀ c ∈ cl, c.v.ok) : Scr (w.alloc (.cells (cl.flatMap Cl.cells).toArray t)) (.slice (some ⟨k, 0, none⟩) n n) cl :=
  ⟨by have := sl_at' w (cl.flatMap Cl.cells) t n n k hk; rw [hn]; exact this, fun n c q => by simp at q, hc⟩
/-- A block of cells stays. -/
theorem heap_later {w w' : World} {b : Nat} {o : Obj} (h : w.heap[b]? = some o) (hb : Below w.heap.size w w') : w'.heap[b]? = some o := (hb.block b (Array.getElem?_eq_some_iff.1 h).1).trans h
theorem heap_more {w : World} {b : Nat} {o : Obj} (h : w.heap[b]? = some o) (o' : Obj) : (w.alloc o').heap[b]? = some o := (Below.heap_alloc _ _ _ (Array.getElem?_eq_some_iff.1 h).1).trans h

/-- An element of a scene, by its number. -/
theorem scene_elem {ns : List Cl} {l i : Nat} (h : Scened ns l) (hi : i ∈ (runFrom Md.init ns).names ((runFrom Md.init ns).seq l)) : ∃ e, e ∈ (runFrom Md.init ns).seq l ∧ (runFrom Md.init ns).fst e = some i ∧ (runFrom Md.init ns).ret i = some e := by
  simp only [Md.names, List.mem_map] at hi
  obtain ⟨e, he, rfl⟩ := hi
  obtain ⟨k, hk⟩ := h.named l e he
  have : (runFrom Md.init ns).name ((runFrom Md.init ns).seq l) e = k := by unfold Md.name; rw [hk]; rfl
  rw [this]
  exact ⟨e, he, hk, (h.wf.fst1 e k hk).1⟩
theorem scene_get {ns : List Cl} {l j i : Nat} (h : Scened ns l) (hi : ((runFrom Md.init ns).names ((runFrom Md.init ns).seq l))[j]? = some i) : ∃ e, ((runFrom Md.init ns).seq l)[j]? = some e ∧ (runFrom Md.init ns).fst e = some i ∧ (runFrom Md.init ns).ret i = some e := by
  simp only [Md.names, List.getElem?_map, Option.map_eq_some_iff] at hi
  obtain ⟨e, he, rfl⟩ := hi
  obtain ⟨k, hk⟩ := h.named l e (List.mem_of_getElem? he)
  have : (runFrom Md.init ns).name ((runFrom Md.init ns).seq l) e = k := by unfold Md.name; rw [hk]; rfl
  rw [this]
  exact ⟨e, he, hk, (h.wf.fst1 e k hk).1⟩
theorem scene_len {ns : List Cl} {l : Nat} (h : Scened ns l) : ((runFrom Md.init ns).seq l).length ≤ 500 := by
  have := h.wf.seq_le l
  have := run_cnt_le _ h.ok (by simp [Md.init])
  omega
/-- The value of an element fits. -/
theorem canon_ok {v : Vl} (h : v.ok) : (canon v).ok := by
  obtain ⟨a, b, c, d⟩ := h
  unfold canon
  repeat' split
  · exact ⟨a, b, c, d⟩
  · exact ⟨by simp, by simp, by simp, by simp⟩
  · exact ⟨by simp, by simp, by simp, by simp⟩
  · exact ⟨by simp, by simp, by simp, by simp⟩
  · exact ⟨a, b, c, d⟩
  · exact vl_zero_ok
theorem upd_ok {f : Nat → Vl} {k : Nat} {v : Vl} (h : ∀ e, (f e).ok) (hv : v.ok) : ∀ e, (upd f k v e).ok := fun e => by
  unfold upd; split
  · exact hv
  · exact h e
theorem step_val_ok {m : Md} {c : Cl} (h : ∀ e, (m.val e).ok) (hc : c.v.ok) : ∀ e, ((m.step c).1.val e).ok := by
  have ha : ∀ (m : Md) i o, (m.answer i o).1.val = m.val := fun m i o => by cases o <;> rfl
  have hcv := canon_ok hc
  have hi : ∀ b, ∀ e, ((m.grow.insert m.len c b).1.val e).ok := by
    intro b
    unfold Md.insert
    split
    · exact h
    · split
      · rw [ha]; exact upd_ok h hcv
      · exact h
  unfold Md.step
  split
  · unfold Md.change
    split
    · rw [ha]; exact upd_ok h hcv
    split
    · rw [ha]; exact upd_ok h hcv
    split
    · exact hi _
    split
    · exact hi _
    split
    · unfold Md.move Md.moveTo
      (repeat' split) <;> exact h
    split
    · unfold Md.remove
      split
      · exact h
      · dsimp only; split <;> exact h
    split
    · intro e
      show (if _ then _ else _ : Vl).ok
      split
      · exact h _
      · exact h _
    split
    · exact h
    · exact h
  · unfold Md.look
    (repeat' split)
    all_goals first | exact h | (rw [ha]; exact h) | (rw [ha]; exact upd_ok h hcv) | exact upd_ok h hcv
theorem run_val_ok : ∀ (cs : List Cl) {m : Md}, (∀ e, (m.val e).ok) → (∀ c ∈ cs, c.v.ok) → ∀ e, ((runFrom m cs).val e).ok
  | [], _, h, _ => h
  | c :: cs, m, h, hc => run_val_ok cs (step_val_ok h (hc c (by simp))) (fun x hx => hc x (by simp [hx]))
theorem val_ok {w : World} {v : Value} {cs : List Cl} (s : Scr w v cs) (e : Nat) : ((runFrom Md.init cs).val e).ok := run_val_ok cs (fun _ => vl_zero_ok) s.ok e
theorem nil_nats (w : World) : Nats w (.slice none 0 0) [] := ⟨none, 0, rfl, fun h => absurd rfl h⟩
end Bead
end Go.Proofs.Ytidnmanljdadaaa
