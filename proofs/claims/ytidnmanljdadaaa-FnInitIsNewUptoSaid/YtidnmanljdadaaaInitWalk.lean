/- FnInitIsNew returns true: scripts of at most 2^40 calls each. -/
import Derived.Test.YtidnmanljdadaaaShifted
import Derived.Test.YtidnmanljdadaaaAnswered
import Derived.Test.YtidnmanljdadaaaLaws3
import Derived.Test.YtidnmanljdadaaaInitNew
set_option linter.all false
namespace Go.Proofs.Ytidnmanljdadaaa
open Go.RowKit
namespace Bead
set_option maxRecDepth 100000

theorem own_lit3 (w : World) (xs : List Value) (e : TypeId) {B g n sz : Nat} (hg : w.heap.size = g) (hB : B ≤ g) (hl : xs.length = n * sz) (hn : n ≤ maxLen) : (w.alloc (.cells xs.toArray e)).ownsRow B e sz (.slice (some ⟨g, 0, none⟩) n n) n xs := by
  subst hg
  refine ⟨hl, .inr ⟨w.heap.size, n, xs.toArray, rfl, hB, heap_alloc_new w _, Nat.le_refl _, hn, by simp [hl], ?_⟩⟩
  rw [← hl]; simp
/-- What stands behind the first one. -/
theorem sl_tail {α : Type} {f : α → List Value} {sz : Nat} (hf : ∀ x, (f x).length = sz) {w : World} {B g n cap : Nat} {e : TypeId} {x : α} {l : List α} (h : w.ownsRow B e sz (.slice (some ⟨g, 0, none⟩) n cap) n ((x :: l).flatMap f)) (hn : n = l.length + 1) (off : Nat) (ho : off = sz) (c : Nat) :
    Sl w (.slice (some ⟨g, off, none⟩) (n - 1) c) (n - 1) (l.flatMap f) := by
  subst hn
  exact sl_rest (n := 1) (m := l.length) (X := f x) (Y := l.flatMap f) (by rw [Nat.add_comm]; exact h) (by rw [hf]; omega) off (by omega) c
theorem sl_none {w : World} {a : Option Addr} {n c : Nat} (hn : n = 0) : Sl w (.slice a n c) n [] := by subst hn; exact ⟨a, c, rfl, fun q => absurd rfl q⟩
theorem own_most {w : World} {B : Nat} {e : TypeId} {sz n c : Nat} {a : Option Addr} {xs : List Value} (h : w.ownsRow B e sz (.slice a n c) n xs) : n ≤ c := by
  rcases h.2 with ⟨q, z⟩ | ⟨_, _, _, q, _, _, hz, _⟩
  · omega
  · simp only [Value.slice.injEq] at q; omega
theorem sl_behind {α : Type} {f : α → List Value} {sz : Nat} (hf : ∀ x, (f x).length = sz) {w : World} {B g n cap : Nat} {e : TypeId} {x : α} {l : List α} (h : w.ownsRow B e sz (.slice (some ⟨g, 0, none⟩) n cap) n ((x :: l).flatMap f)) (hn : n = l.length + 1) :
    Sl w (.slice (if cap = 1 then some ⟨g, 0, none⟩ else some ⟨g, sz, none⟩) (n - 1) (cap - 1)) l.length (l.flatMap f) := by
  have hm : n - 1 = l.length := by omega
  split
  · have := own_most h
    have e : l = [] := List.length_eq_zero_iff.1 (by omega)
    subst e
    rw [hm]; exact sl_none rfl
  · have := sl_tail hf h hn sz rfl (cap - 1)
    rw [hm] at this ⊢; exact this
theorem fair_some (a : Addr) (n c : Nat) : Value.fair (.slice (some a) n c) := fun k c' q => by simp at q
theorem places_lt {B cs ct : List Cl} {c0 : Cl} {l p : Nat} (hok : okFrom 500 Md.init B = true) (hl : l ∈ listsOf B) (hcs : cs = c0 :: ct) (hp : p ∈ initPlaces l B.length ct.length) : p < B.length + cs.length := by
  subst hcs
  have h1 := (WF.run B WF.init hok).isl l ((listsOf_iff B l).1 hl)
  rw [run_init_len] at h1
  simp only [initPlaces, List.mem_cons, List.mem_range'_1] at hp
  simp only [List.length_cons]
  omega
theorem init_answers {B : List Cl} {l : Nat} {c0 : Cl} {ct : List Cl} (hB : okFrom 500 Md.init B = true) (hl : (runFrom Md.init B).isL l = true) (h0 : c0.op = 0) (hc : okFrom 500 Md.init (c0 :: ct) = true) :
    (initPlaces l B.length ct.length).map (anAt (ansFrom Md.init ((B ++ [cInit l]) ++ ct.map (shiftC (initPlaces l B.length ct.length)))) (initPlaces l B.length ct.length)) =
    anAt (ansFrom Md.init ((B ++ [cInit l]) ++ ct.map (shiftC (initPlaces l B.length ct.length)))) (initPlaces l B.length ct.length) l :: ansFrom (Md.init.step c0).1 ct := by
  obtain ⟨_, h2⟩ := init_run hB hl h0 hc
  generalize hP : initPlaces l B.length ct.length = P at *
  have e : P.map (anAt (ansFrom Md.init ((B ++ [cInit l]) ++ ct.map (shiftC P))) P) = anAt (ansFrom Md.init ((B ++ [cInit l]) ++ ct.map (shiftC P))) P l :: (List.range' (B.length + 1) ct.length).map (anAt (ansFrom Md.init ((B ++ [cInit l]) ++ ct.map (shiftC P))) P) := by
    conv => lhs; arg 2; rw [← hP]
    rfl
  rw [e]
  congr 1
  apply List.ext_getElem?
  intro k
  by_cases hk : k < ct.length
  · have ha : k < (ansFrom (Md.init.step c0).1 ct).length := by rw [ansFrom_length]; exact hk
    have hb : k < (ansFrom (runFrom Md.init (B ++ [cInit l])) (ct.map (shiftC P))).length := by rw [ansFrom_length]; simpa using hk
    have e1 : (ansFrom (Md.init.step c0).1 ct)[k]? = some _ := List.getElem?_eq_getElem ha
    have e2 : (ansFrom (runFrom Md.init (B ++ [cInit l])) (ct.map (shiftC P)))[k]? = some _ := List.getElem?_eq_getElem hb
    have e3 : (ansFrom Md.init ((B ++ [cInit l]) ++ ct.map (shiftC P)))[B.length + 1 + k]? = (ansFrom (runFrom Md.init (B ++ [cInit l])) (ct.map (shiftC P)))[k]? := by
      rw [ansFrom_append, List.getElem?_append_right (by rw [ansFrom_length]; simp), ansFrom_length]
      congr 1; simp
    rw [List.getElem?_map, List.getElem?_range' hk, e1]
    simp only [Option.map_some, Nat.one_mul, anAt, List.getD_eq_getElem?_getD, e3, e2, Option.getD_some]
    rw [h2 k _ _ e1 e2]
  · rw [List.getElem?_eq_none (by simp; omega), List.getElem?_eq_none (by rw [ansFrom_length]; omega)]
/-- The places, so far. -/
structure PlAt (w wr : World) (g l b j : Nat) (v : Value) : Prop where
  own : wr.ownsRow g 3 1 v (j + 1) (ints (initPlaces l b j))
  below : Below w.heap.size w wr
theorem PlAt.next {w wr w2 : World} {g l b j : Nat} {v v' : Value} {o : Obj} (h : PlAt w wr g l b j v) (hg0 : w.heap.size ≤ g) (hown : w2.ownsRow g 3 1 v' (j + 1 + 1) (ints (initPlaces l b j) ++ [.int .i64 ((b + 1 + j : Nat))])) (hg : (wr.alloc o).grownBy w2 v.ownBlock) : PlAt w w2 g l b (j + 1) v' := by
  refine ⟨?_, below_grown (h.below.alloc h.below.size o) (h.own.alloc o) hg0 hg⟩
  have e : ints (initPlaces l b (j + 1)) = ints (initPlaces l b j) ++ [.int .i64 ((b + 1 + j : Nat))] := by
    simp [initPlaces, ints, List.range'_1_concat]
  rw [e]; exact hown

set_option maxHeartbeats 16000000 in
theorem initNew_c {w : World} {v0 v2 : Value} {B cs : List Cl} (s0 : Scr w v0 B) (s2 : Scr w v2 cs) (hB : B.length ≤ 1099511627776) (hC : cs.length ≤ 1099511627776) (n : Int) :
    Calls Try.prog 6 #[v0, .int .i64 n, v2] w fun r w' => r = .returned (.bool true) ∧ Below w.heap.size w w' := by
  have LS := Lib.hid (lists_c s0 (by omega))
  have SB := Lib.hid s0; have SC := Lib.hid s2
  have hll : (listsOf B).length ≤ B.length := listsAt_length B 0
  obtain ⟨a1, a2, rfl⟩ := s0.form
  obtain ⟨b1, b2, rfl⟩ := s2.form
  clear s0 s2
  go_enter Try.func6, Try.ntmps6
  go_wp2_with fail
  refine LS.out.mono ?_
  rintro r w1 ⟨vl, rfl, rl, hb1⟩
  have B1 := Lib.hid hb1
  have NT : Nats w1 vl (listsOf B) := Nats.of_own rl
  have DF := Lib.hid (defined_c (SC.out.sl.later hb1) hC)
  clear hb1 rl LS
  by_cases hL : listsOf B = []
  · have CH := Lib.hid (chosen_nil NT hL n)
    clear NT hL
    go_wp2_with fail
    refine CH.out.mono ?_
    rintro r w2 ⟨rfl, rfl⟩
    clear CH
    go_wp2_with fail
    refine DF.out.mono ?_
    rintro r w2 ⟨hb2, hcase⟩
    have B2 := Lib.hid (B1.out.trans (hb2.mono B1.out.size))
    clear hb2
    rcases hcase with ⟨hokb, rb, ro2, rfl, rrb, rro2⟩ | ⟨hokb, rfl⟩
    all_goals
      clear hokb
      go_wp2
      go_ret
      exact ⟨rfl, B2.out⟩
  · have CH := Lib.hid (chosen_c NT hL (by omega) n)
    clear NT hL
    go_wp2_with fail
    refine CH.out.mono ?_
    rintro r w2 ⟨l, hl, rfl, rfl⟩
    have HLl := Lib.hid hl
    clear CH hl
    go_wp2_with fail
    refine DF.out.mono ?_
    rintro r w2 ⟨hb2, hcase⟩
    have B2 := Lib.hid (B1.out.trans (hb2.mono B1.out.size))
    clear hb2 DF
    rcases hcase with ⟨hokc, ra, ro, rfl, rra, rro⟩ | ⟨hokc, rfl⟩
    case inr =>
      clear hokc
      go_wp2
      go_ret
      exact ⟨rfl, B2.out⟩
    case inl =>
      have OKC := Lib.hid hokc; have RO := Lib.hid rro
      have PM := Lib.hid (permittedL_c (SB.out.sl.later B2.out) hB)
      clear hokc rra rro
      go_wp2_with fail
      refine PM.out.mono ?_
      rintro r w3 ⟨rfl, hb3⟩
      have B3 := Lib.hid (B2.out.trans (hb3.mono B2.out.size))
      have RO3 := Lib.hid (own_below RO.out hb3)
      clear hb3 PM RO
      cases hok : okFrom 500 Md.init B with
      | false =>
        clear hok
        go_wp2
        go_ret
        exact ⟨rfl, B3.out⟩
      | true =>
        have OKB := Lib.hid hok
        clear hok
        by_cases hne : cs = []
        · have q0 : ((cs.length : Int) == 0) = true := by rw [hne]; rfl
          clear hne
          go_wp2
          go_ret
          exact ⟨rfl, B3.out⟩
        · obtain ⟨c0, ct, hct⟩ : ∃ c0 ct, cs = c0 :: ct := by cases cs with | nil => exact absurd rfl hne | cons x y => exact ⟨x, y, rfl⟩
          have hn1 : 1 ≤ cs.length := by rw [hct]; simp
          have q0 : ((cs.length : Int) == 0) = false := by simp; exact hne
          obtain ⟨b, off, cp, hv, hcell⟩ := (SC.out.sl.later B3.out).elem Cl.cells_length (by decide) hne
          simp only [Value.slice.injEq] at hv
          obtain ⟨rfl, _, rfl⟩ := hv
          have e0 : w3.cell? ⟨b, off, none⟩ = some (.int .i64 c0.op) := by have := hcell 0 c0 (by rw [hct]; rfl) 0 _ rfl; simpa using this
          have HCT := Lib.hid hct
          clear hcell hne hct
          by_cases h0 : c0.op = 0
          case neg =>
            have q1 : (c0.op != 0) = true := by simp; exact h0
            clear h0
            go_wp2
            go_ret
            exact ⟨rfl, B3.out⟩
          case pos =>
            have q1 : (c0.op != 0) = false := by simp; exact h0
            have H0 := Lib.hid h0
            clear h0
            by_cases hbig : B.length + cs.length > 1000
            · have q : decide ((B.length : Int) + (cs.length : Int) > 1000) = true := by simp; omega
              go_wp2
              go_ret
              exact ⟨rfl, B3.out⟩
            · have q : decide ((B.length : Int) + (cs.length : Int) > 1000) = false := by simp; omega
              have hab : B.length + cs.length ≤ 1000 := by omega
              have TH : Hid (∀ t, Calls Try.prog 22 #[.slice a1 B.length a2, .slice (some ⟨w3.heap.size, 0, none⟩) 1 1] (w3.alloc (.cells (cInit l).cells.toArray t)) fun r w' => ∃ v', r = .returned v' ∧ w'.ownsRow (w3.heap.size + 1) 32 8 v' (B.length + 1) ((B ++ [cInit l]).flatMap Cl.cells) ∧ Below (w3.heap.size + 1) (w3.alloc (.cells (cInit l).cells.toArray t)) w') := fun t => by
                have q := then_c (w := w3.alloc (.cells (cInit l).cells.toArray t)) (a := B) (b := [cInit l]) ((SB.out.sl.later B3.out).later (below1 _ _)) (scr_one w3 (cInit l) t vl_zero_ok).sl SB.out.fair (fun k c q => by simp at q) (by simp; omega)
                simpa using q
              clear hbig
              go_wp2_with fail
              refine (TH.out _).mono ?_
              rintro r w4 ⟨vs, rfl, rs, hb4⟩
              obtain ⟨y1, y2, rfl⟩ := own_len rs
              have B4 := Lib.hid (B3.out.trans (((below1 w3 _).trans (hb4.mono (by simp))).mono B3.out.size))
              have RS := Lib.hid rs
              have RO4 := Lib.hid (own_below (own_below RO3.out (below1 w3 _)) (hb4.mono (by simp)))
              have P0 : Hid (PlAt w4 (w4.alloc (.cells #[.int .i64 (l : Nat)] 3)) w4.heap.size l B.length 0 (.slice (some ⟨w4.heap.size, 0, none⟩) 1 1)) := ⟨own_lit3 w4 [.int .i64 (l : Nat)] 3 rfl (Nat.le_refl _) rfl (by decide), below1 w4 _⟩
              clear hb4 rs TH q q1 q0
              go_wp2_with fail
              go_loopg [13, 14] (cs.length - 1) (fun n p k wr => ∃ j, j + n + 1 = cs.length ∧ k = .int .i64 ((j + 1 : Nat)) ∧ PlAt w4 wr w4.heap.size l B.length j p)
              case atStart => exact ⟨0, by omega, rfl, P0.out⟩
              case round =>
                clear P0
                obtain ⟨j, hj, rfl, hP⟩ := hrel
                have HP := Lib.hid hP; have HJ := Lib.hid hj
                obtain ⟨p1, p2, rfl⟩ := own_len hP.own
                have szr := hP.below.size
                by_cases hk0 : gk = 0
                · subst hk0
                  have hj1 : cs.length = j + 1 := by omega
                  have hge : cs.length ≤ j + 1 := by omega
                  have LP : (initPlaces l B.length j).length = j + 1 := by simp [initPlaces]
                  have BW := Lib.hid (fun (wz : World) (hz : Below w4.heap.size w4 wz) => B4.out.trans (hz.mono B4.out.size))
                  have NP : Nats wr (.slice p1 (j + 1) p2) (initPlaces l B.length j) := by unfold Nats; rw [LP]; exact Sl.of_own hP.own
                  have SH := Lib.hid (shifted_c (SC.out.later (BW.out _ hP.below)) NP (by rw [LP]; omega) hC)
                  have HPN := Lib.hid NP; have HLP := Lib.hid LP; have HJ1 := Lib.hid hj1
                  obtain ⟨wo, rfl⟩ : ∃ wo, wo = wr := ⟨_, rfl⟩
                  clear hP hj hj1 LP NP HJ
                  go_upto_region 11 with fail
                  go_cut [15] (fun v wz => ∃ g1 g2, v = .slice g1 (B.length + cs.length) g2 ∧ wz.ownsRow w4.heap.size 41 5 v (B.length + cs.length) ((ansFrom Md.init ((B ++ [cInit l]) ++ ct.map (shiftC (initPlaces l B.length ct.length)))).flatMap An.cells) ∧ Below wo.heap.size wo wz)
                  case first =>
                    go_wp2_with fail
                    refine SH.out.mono ?_
                    rintro r w6 ⟨vx, rfl, rx, hb6⟩
                    have L6 := Lib.hid (HP.out.below.trans (hb6.mono HP.out.below.size))
                    have M6 := Lib.hid hb6
                    obtain ⟨xb, xc, rfl⟩ := own_form rx (by omega)
                    have hct : ct.length = j := by have := HCT.out; have := HJ1.out; subst cs; simp at this; omega
                    have rx' : w6.ownsRow wo.heap.size 32 8 (.slice (some ⟨xb, 0, none⟩) cs.length xc) cs.length (((shiftC (initPlaces l B.length ct.length) c0) :: ct.map (shiftC (initPlaces l B.length ct.length))).flatMap Cl.cells) := by
                      rw [hct]; have e := HCT.out; rw [e] at rx ⊢; exact rx
                    have rest : ∀ v, (v = .slice (some ⟨xb, 8, none⟩) (cs.length - 1) (xc - 1) ∨ (v = .slice (some ⟨xb, 0, none⟩) (cs.length - 1) 0 ∧ xc = 1)) → Sl w6 v (ct.map (shiftC (initPlaces l B.length ct.length))).length ((ct.map (shiftC (initPlaces l B.length ct.length))).flatMap Cl.cells) ∧ Value.fair v := by
                      have hl : (ct.map (shiftC (initPlaces l B.length ct.length))).length = cs.length - 1 := by rw [List.length_map, hct]; have := HJ1.out; omega
                      rintro v (rfl | ⟨rfl, h1⟩)
                      · rw [hl]; exact ⟨sl_tail Cl.cells_length rx' (by rw [List.length_map, hct, HJ1.out]) 8 rfl _, fair_some _ _ _⟩
                      · have := own_most rx
                        have e0 : ct = [] := List.length_eq_zero_iff.1 (by have := HJ1.out; omega)
                        rw [hl]; subst e0; exact ⟨sl_none (by omega), fair_some _ _ _⟩
                    have TB : Hid (∀ v, (v = .slice (some ⟨xb, 8, none⟩) (cs.length - 1) (xc - 1) ∨ (v = .slice (some ⟨xb, 0, none⟩) (cs.length - 1) 0 ∧ xc = 1)) → Calls Try.prog 22 #[.slice y1 (B.length + 1) y2, v] w6 fun r w' => ∃ v', r = .returned v' ∧ w'.ownsRow w6.heap.size 32 8 v' ((B ++ [cInit l]) ++ ct.map (shiftC (initPlaces l B.length ct.length))).length (((B ++ [cInit l]) ++ ct.map (shiftC (initPlaces l B.length ct.length))).flatMap Cl.cells) ∧ Below w6.heap.size w6 w') := fun v hv => by
                      obtain ⟨r1, r2⟩ := rest v hv
                      refine then_c (a := B ++ [cInit l]) ?_ r1 (own_fair RS.out) r2 (by have := HJ1.out; simp; omega)
                      have := Sl.of_own (own_below RS.out L6.out)
                      rw [List.length_append]; exact this
                    have RUN := Lib.hid (init_run OKB.out (mem_lists l HLl.out) H0.out (by rw [← HCT.out]; exact OKC.out))
                    have HVM : Hid (∀ c ∈ (B ++ [cInit l]) ++ ct.map (shiftC (initPlaces l B.length ct.length)), c.v.ok) := by
                      intro c hc
                      rcases List.mem_append.1 hc with q | q
                      · rcases List.mem_append.1 q with q | q
                        · exact SB.out.ok c q
                        · simp at q; subst q; exact vl_zero_ok
                      · obtain ⟨d, hd, rfl⟩ := List.mem_map.1 q
                        exact SC.out.ok d (by rw [HCT.out]; simp [hd])
                    have LEN : Hid (((B ++ [cInit l]) ++ ct.map (shiftC (initPlaces l B.length ct.length))).length = B.length + cs.length) := by
                      show _ = _
                      simp only [List.length_append, List.length_map, List.length_singleton]
                      have := HJ1.out; omega
                    clear hb6 rx SH rx' rest hct
                    go_wp2_with fail
                    all_goals
                      first
                        | refine (TB.out _ (.inl rfl)).mono ?_
                        | refine (TB.out _ (.inr ⟨rfl, by assumption⟩)).mono ?_
                      rintro r w7 ⟨vt, rfl, rt, hb7⟩
                      have L7 := Lib.hid (L6.out.trans (hb7.mono L6.out.size))
                      have M7 := Lib.hid (M6.out.trans (hb7.mono M6.out.size))
                      have PG := Lib.hid (play_any (Sl.of_own rt) HVM.out RUN.out.1 (by decide) (by rw [LEN.out]; omega))
                      clear hb7 rt
                      go_wp2_with fail
                      refine PG.out.mono ?_
                      rintro r w8 ⟨og, rfl, rg, hb8⟩
                      rw [LEN.out] at rg
                      obtain ⟨g1, g2, rfl⟩ := own_len rg
                      have M8 := M7.out.trans (hb8.mono M7.out.size)
                      have rg' := own_base rg L7.out.size
                      clear PG hb8 rg
                      go_wp2
                      go_meet
                      case rel => exact ⟨g1, g2, rfl, rg', M8⟩
                  case rest =>
                    obtain ⟨g1, g2, rfl, rg, hbz⟩ := hcut
                    have RG := Lib.hid rg
                    have M8 := Lib.hid hbz
                    have L8 := Lib.hid (HP.out.below.trans (hbz.mono HP.out.below.size))
                    have PC := Lib.hid (play_any (SC.out.sl.later (BW.out _ L8.out)) SC.out.ok OKC.out (by decide) hC)
                    clear rg hbz SH
                    go_wp2_with fail
                    refine PC.out.mono ?_
                    rintro r w9 ⟨o9, rfl, r9, hb9⟩
                    have L9 := Lib.hid (L8.out.trans (hb9.mono L8.out.size))
                    have M9 := Lib.hid (M8.out.trans (hb9.mono M8.out.size))
                    have RG9 := Lib.hid (own_below RG.out hb9)
                    obtain ⟨hb, hc, rfl⟩ := own_form r9 (by omega)
                    obtain ⟨ob, oc, rfl⟩ := own_form RO4.out (by omega)
                    have R9 := Lib.hid r9
                    clear hb9 r9 PC
                    go_wp2_with fail
                    refine wp_region_T (fun _ : World => True) [2, 8] [] run_mixed ?_
                    simp only [List.size_toArray, List.length_cons, List.length_nil]
                    have hbd : Below w9.heap.size w9 w9.drew := (Below.refl _ w9).drew
                    have LK := Lib.hid (L9.out.trans (hbd.mono L9.out.size))
                    have K0 := Lib.hid hbd
                    have hn1i : (1 : Int) ≤ (cs.length : Int) := by omega
                    generalize w9.drew = wk at *
                    clear hbd
                    refine wpT_takeG (i := 0) (v := ?va0) rfl (by kernel_rfl) (fun _ _ _ h => h) rfl ?ya0 ?ra0
                    case ya0 => ((intro wz; go_simp); try with_reducible rfl)
                    try simp only [Act.put, List.setIfInBounds_toArray, List.set_cons_zero, List.set_cons_succ]
                    refine wpT_takeG (i := 1) (v := ?va1) rfl (by kernel_rfl) (fun _ _ _ h => h) rfl ?ya1 ?ra1
                    case ya1 => ((intro wz; go_simp); try with_reducible rfl)
                    try simp only [Act.put, List.setIfInBounds_toArray, List.set_cons_zero, List.set_cons_succ]
                    refine wpT_takeG (i := 4) (v := ?va4) rfl (by kernel_rfl) (fun _ _ _ h => h) rfl ?ya4 ?ra4
                    case ya4 => ((intro wz; go_simp); try with_reducible rfl)
                    try simp only [Act.put, List.setIfInBounds_toArray, List.set_cons_zero, List.set_cons_succ]
                    refine wpT_takeG (i := 5) (v := ?va5) rfl (by kernel_rfl) (fun _ _ _ h => h) rfl ?ya5 ?ra5
                    case ya5 => ((intro wz; go_simp); try with_reducible rfl)
                    try simp only [Act.put, List.setIfInBounds_toArray, List.set_cons_zero, List.set_cons_succ]
                    refine wpT_takeG (i := 6) (v := ?va6) rfl (by kernel_rfl) (fun _ _ _ h => h) rfl ?ya6 ?ra6
                    case ya6 => ((intro wz; go_simp); try with_reducible rfl)
                    try simp only [Act.put, List.setIfInBounds_toArray, List.set_cons_zero, List.set_cons_succ]
                    refine wpT_takeG (i := 7) (v := ?va7) rfl (by kernel_rfl) (fun _ _ _ h => h) rfl ?ya7 ?ra7
                    case ya7 => ((intro wz; go_simp); try with_reducible rfl)
                    try simp only [Act.put, List.setIfInBounds_toArray, List.set_cons_zero, List.set_cons_succ]
                    refine wpT_runG (i := 2) (by kernel_rfl) rfl rfl ?_
                    go_simp
                    have LAM := Lib.hid (show (ansFrom Md.init ((B ++ [cInit l]) ++ ct.map (shiftC (initPlaces l B.length ct.length)))).length = B.length + cs.length by
                      rw [ansFrom_length]; simp only [List.length_append, List.length_map, List.length_singleton]; have := HCT.out; subst cs; simp; omega)
                    have HCJ := Lib.hid (show ct.length = j by have := HCT.out; have := HJ1.out; subst cs; simp at this; omega)
                    have SGK : Hid (Sl wk (.slice g1 (B.length + cs.length) g2) (ansFrom Md.init ((B ++ [cInit l]) ++ ct.map (shiftC (initPlaces l B.length ct.length)))).length ((ansFrom Md.init ((B ++ [cInit l]) ++ ct.map (shiftC (initPlaces l B.length ct.length)))).flatMap An.cells)) := by
                      rw [LAM.out]; exact (Sl.of_own RG9.out).later K0.out
                    have NPK : Hid (Nats wk (.slice p1 (j + 1) p2) (initPlaces l B.length ct.length)) := by rw [HCJ.out]; exact HPN.out.later (M9.out.trans (K0.out.mono M9.out.size))
                    refine (answered_c SGK.out NPK.out (fun p hp => by rw [LAM.out]; exact places_lt OKB.out HLl.out HCT.out hp) (by simp [initPlaces]; have := HCJ.out; have := HJ1.out; omega)).mono ?_
                    rintro r w10 ⟨oA, rfl, rA, hb10⟩
                    have hlp : (initPlaces l B.length ct.length).length = cs.length := by have := HCT.out; subst cs; simp [initPlaces]
                    rw [hlp, init_answers OKB.out (mem_lists l HLl.out) H0.out (by rw [← HCT.out]; exact OKC.out)] at rA
                    obtain ⟨ab, ac, rfl⟩ := own_form rA (by omega)
                    have RA := Lib.hid rA
                    have LK10 := Lib.hid (LK.out.trans (hb10.mono LK.out.size))
                    have K10 := Lib.hid (K0.out.trans (hb10.mono K0.out.size))
                    clear hb10 rA hlp
                    refine ⟨cond_keep (by decide) trivial, ?_⟩
                    refine wpT_takeG (i := 3) (v := ?vb3) rfl (by kernel_rfl) (fun _ _ _ h => h) rfl ?yb3 ?rb3
                    case yb3 => ((intro wz; go_simp); try with_reducible rfl)
                    try simp only [Act.put, List.setIfInBounds_toArray, List.set_cons_zero, List.set_cons_succ]
                    refine wpT_runG (i := 8) (by kernel_rfl) rfl rfl ?_
                    go_simp
                    have hn2 : cs.length = (ansFrom (Md.init.step c0).1 ct).length + 1 := by rw [ansFrom_length]; have := HCT.out; subst cs; rfl
                    have hn3 : cs.length = (openFrom (Md.init.step c0).1 ct).length + 1 := by rw [openFrom_length]; have := HCT.out; subst cs; rfl
                    have RW := own_below R9.out K10.out
                    rw [show ansFrom Md.init cs = (Md.init.step c0).2 :: ansFrom (Md.init.step c0).1 ct by rw [HCT.out]; rfl] at RW
                    have RQ := own_below RO4.out LK10.out
                    rw [show openFrom Md.init cs = Md.init.grow.opened c0 :: openFrom (Md.init.step c0).1 ct by rw [HCT.out]; rfl, flat_bools] at RQ
                    refine (agree_c (A := ansFrom (Md.init.step c0).1 ct) (O := openFrom (Md.init.step c0).1 ct) (sl_behind An.cells_length RA.out hn2) (sl_behind An.cells_length RW hn2) (by have q := sl_behind (f := fun b => [Value.bool b]) (sz := 1) (fun _ => rfl) RQ hn3; rw [openFrom_length] at q; rw [ansFrom_length]; exact q) (by rw [openFrom_length, ansFrom_length]) (by rw [ansFrom_length]; have := HCJ.out; have := HJ1.out; omega)).mono ?_
                    rintro r wa ⟨rfl, d, rfl⟩
                    refine ⟨cond_keep (by decide) trivial, ?_⟩
                    refine wpT_takeG (i := 9) (v := ?vc9) rfl (by kernel_rfl) (fun _ _ _ h => h) rfl ?yc9 ?rc9
                    case yc9 => ((intro wz; go_simp); try with_reducible rfl)
                    try simp only [Act.put, List.setIfInBounds_toArray, List.set_cons_zero, List.set_cons_succ]
                    refine wpT_done (by kernel_rfl) ?_ _
                    have BE := Lib.hid (Below.drewN' (BW.out _ LK10.out) d)
                    clear hn2 hn3 RW RQ
                    go_wp2
                    all_goals
                      go_ret
                      exact ⟨rfl, BE.out⟩
                · have hjl : j + 1 < cs.length := by omega
                  clear hP hj
                  go_wp2_with (at_builtin; refine wpList_app2 rfl (.tmp 74) (.tmp 80) 27 rfl w4.heap.size 3 _ 1 8 Try.underlying27 Try.infoInt rfl (by decide) _ _ _ rfl (HP.out.own.alloc _) _ 1 [.int .i64 ((B.length : Int) + 1 + ((j : Int) + 1) - 1)] rfl (sl_at' _ _ _ _ _ _ (by simp)) rfl (by simp [Value.oneCell']) (.inr (.inr (by decide))) (by omega) (by decide) (by simp; omega) ?_; intro v' w5 hown hg hn; have N2 := Lib.hid (HP.out.next (Nat.le_refl _) (by rw [show ((B.length : Int) + 1 + ((j : Int) + 1) - 1) = ((B.length + 1 + j : Nat) : Int) by omega] at hown; exact hown) hg); clear hown hg hn)
                  go_roundg (gk - 1)
                  case measure => omega
                  case rel => exact ⟨j + 1, by have := HJ.out; omega, by go_num, N2.out⟩
end Bead
end Go.Proofs.Ytidnmanljdadaaa
