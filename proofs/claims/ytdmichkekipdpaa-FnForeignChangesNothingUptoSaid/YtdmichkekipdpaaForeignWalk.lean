/- FnForeignChangesNothing returns true. -/
import Derived.Test.YtdmichkekipdpaaForeign
import Derived.Test.YtdmichkekipdpaaScene2
import Derived.Test.YtdmichkekipdpaaLast4
import Derived.Deep.DeepCutAuto
set_option linter.all false
namespace Go.Proofs.Ytdmichkekipdpaa
open Go.RowKit
namespace Bead
set_option maxRecDepth 100000

section
variable {P : Program} {ops : Array Oper} {Q : Exit → Act → World → Prop} {md : Region.Mode} {S : World → Prop} {R T : List Nat}
/-- An operation whose guard fails is passed first. -/
theorem wpT_skip2 {i : Nat} {oi : Oper} {fuel : Nat} {listed : Array Bool} {a : Act} {w : World} (hi' : ops.toList[i]? = some oi)
    (hc : (Region.noSelect ops && Region.free md ops listed i && (Region.ready md ops listed).contains i && !T.contains i && !R.contains i && shutB md ops listed) = true)
    (hQ : ∀ c a w, Q (.panic c) (a.put oi.dst undef) w → Q (.panic c) a w) (hg : Region.wanted oi (yielded ops a.tmps) = false)
    (h : wpT P md ops Q S R T fuel (listed.setIfInBounds i true) (a.put oi.dst undef) w) : wpT P md ops Q S R T (fuel + 1) listed a w := by
  have hi : ops[i]? = some oi := by rw [← Array.getElem?_toList]; exact hi'
  simp only [Bool.and_eq_true, Bool.not_eq_true'] at hc
  obtain ⟨⟨⟨⟨⟨hs, hf⟩, hr⟩, hT⟩, hR⟩, hsh⟩ := hc
  exact wpT_first (Y := fun _ => True) hi (by simpa using hT) (by simpa using hR) (Region.noSelect_spec hs) hQ (fun _ _ _ _ _ _ _ _ _ => trivial) fuel listed a w (shutB_spec hsh) (Region.free_spec hi hf) (by simpa using hr) (.inr ⟨hg, rfl⟩) trivial h
end
section
variable {P : Program} {ops : Array Oper} {Q : Exit → Act → World → Prop} {md : Region.Mode} {S : World → Prop} {R : List Nat}
/-- A call whose guard fails, where it alone is ready. -/
theorem wpT_pass {i : Nat} {oi : Oper} {fuel : Nat} {listed : Array Bool} {a : Act} {w : World} (hr : Region.ready md ops listed = [i]) (hi' : ops.toList[i]? = some oi) (hg : Region.wanted oi (yielded ops a.tmps) = false) (hS : S w) (hiR : i ∈ R)
    (h : wpT P md ops Q S R [] fuel (listed.setIfInBounds i true) (a.put oi.dst undef) w) : wpT P md ops Q S R [] (fuel + 1) listed a w := by
  have hi : ops[i]? = some oi := by rw [← Array.getElem?_toList]; exact hi'
  refine ⟨fun q => (by rw [hr] at q; simp at q), fun j hj => ?_⟩
  rw [hr] at hj
  simp only [List.mem_singleton] at hj
  subst hj
  unfold wpOp
  simp only [hi]
  rw [if_neg (by rw [hg]; decide)]
  exact ⟨cond_keep hiR hS, h⟩
end
theorem name_iff2 {ns : List Cl} {l e k : Nat} (h : Scened ns l) (hk : (runFrom Md.init ns).fst e = some k) : k ∈ (runFrom Md.init ns).names ((runFrom Md.init ns).seq l) ↔ e ∈ (runFrom Md.init ns).seq l := by
  constructor
  · intro q
    obtain ⟨f, h1, h2, _⟩ := scene_elem h q
    rw [fst_inj h.wf hk h2]; exact h1
  · intro q
    unfold Md.names
    refine List.mem_map.2 ⟨e, q, ?_⟩
    unfold Md.name
    rw [hk]; rfl

set_option maxHeartbeats 16000000 in
theorem foreign_c {w : World} {v : Value} {cs : List Cl} (s : Scr w v cs) (hn : cs.length ≤ 1048576) (n : Int) (op list other elem mark vk vn : Int) (vt : ByteArray) (hc : (⟨vk, vn, vt⟩ : Vl).ok) :
    Calls Try.prog 13 #[v, .int .i64 n, .agg #[.int .i64 op, .int .i64 list, .int .i64 other, .int .i64 elem, .int .i64 mark, .int .i64 vk, .int .i64 vn, .string vt]] w fun r w' => r = .returned (.bool true) ∧ Below w.heap.size w w' := by
  have ST := Lib.hid (fun o => set_f (s.later (below1 w o)) hn n)
  have CO := Lib.hid hc
  clear s hc
  go_enter Try.func13, Try.ntmps13
  go_wp2_with fail
  refine (ST.out _).mono ?_
  rintro r w1 ⟨hb1, hcase⟩
  have B1 := Lib.hid ((below1 w _).trans (hb1.mono (by simp)))
  have G1 := Lib.hid (heap_later (heap_alloc_new w (.cells #[.int .i64 op, .int .i64 list, .int .i64 other, .int .i64 elem, .int .i64 mark, .int .i64 vk, .int .i64 vn, .string vt] 29)) hb1)
  have hw0 : w.heap.size < w1.heap.size := (Array.getElem?_eq_some_iff.1 G1.out).1
  clear hb1 ST
  have g0 := cell_of_heap (o := 0) G1.out rfl
  have g1 := cell_of_heap (o := 1) G1.out rfl
  have gf : w1.frozen? ⟨w.heap.size, 1, none⟩ = false := free_of_heap G1.out
  rcases hcase with ⟨l, vs, ve, rfl, hsc, hok0, hl0, hs1, hn1, hvs, hve, _⟩ | rfl
  · have SC := Lib.hid hsc
    generalize hns : namedC cs = ns at *
    clear hns hsc hok0 hl0
    have LN := SC.out.len
    have NL := names_length (m := runFrom Md.init ns) ((runFrom Md.init ns).seq l)
    have hlen := scene_len SC.out
    have kk : Keeps (fun k => k = w.heap.size) w1 (w1.setCell ⟨w.heap.size, 1, none⟩ (.int .i64 (l : Nat))) := (Keeps.refl (fun k => k = w.heap.size) w1).setCell (p := ⟨w.heap.size, 1, none⟩) (fun _ => rfl) _
    have zs : (w1.setCell ⟨w.heap.size, 1, none⟩ (.int .i64 (l : Nat))).heap.size = w1.heap.size := by simp [World.setCell]
    have S1 : Scr (w1.setCell ⟨w.heap.size, 1, none⟩ (.int .i64 (l : Nat))) vs ns := ⟨hs1.sl.keep kk (fun b q r => by have := hvs b q; simp at this; omega), hs1.fair, hs1.ok⟩
    have N1 : Nats (w1.setCell ⟨w.heap.size, 1, none⟩ (.int .i64 (l : Nat))) ve ((runFrom Md.init ns).names ((runFrom Md.init ns).seq l)) := Sl.keep hn1 kk (fun b q r => by have := hve b q; simp at this; omega)
    have G1' : (w1.setCell ⟨w.heap.size, 1, none⟩ (.int .i64 (l : Nat))).heap[w.heap.size]? = some (.cells #[.int .i64 op, .int .i64 (l : Nat), .int .i64 other, .int .i64 elem, .int .i64 mark, .int .i64 vk, .int .i64 vn, .string vt] 29 (0, 0)) := by have := heap_set (o := 1) (v := .int .i64 (l : Nat)) G1.out; simpa using this
    have B1' : Below w.heap.size w (w1.setCell ⟨w.heap.size, 1, none⟩ (.int .i64 (l : Nat))) := B1.out.trans (kk.below (fun k hk _ q => by omega) B1.out.size)
    obtain ⟨y1, y2, rfl⟩ := hs1.form
    obtain ⟨x1, x2, rfl⟩ := hn1.form
    generalize hN0 : ((runFrom Md.init ns).seq l).length = N0 at *
    have HN0 := Lib.hid hN0
    rw [NL] at N1 ⊢
    have HNL := Lib.hid NL
    have BX : ((w1.setCell ⟨w.heap.size, 1, none⟩ (.int .i64 (l : Nat))).alloc (.cells #[.slice y1 ns.length y2, .int .i64 (l : Nat), .slice x1 N0 x2] 34)).heap[w1.heap.size]? = some (.cells #[.slice y1 ns.length y2, .int .i64 (l : Nat), .slice x1 N0 x2] 34 (0, 0)) := by have := heap_alloc_new (w1.setCell ⟨w.heap.size, 1, none⟩ (.int .i64 (l : Nat))) (.cells #[.slice y1 ns.length y2, .int .i64 (l : Nat), .slice x1 N0 x2] 34); rw [zs] at this; exact this
    have SX := Lib.hid (S1.later (below1 _ (.cells #[.slice y1 ns.length y2, .int .i64 (l : Nat), .slice x1 N0 x2] 34)))
    have NX := Lib.hid (N1.later (below1 _ (.cells #[.slice y1 ns.length y2, .int .i64 (l : Nat), .slice x1 N0 x2] 34)))
    have CX := Lib.hid (heap_more G1' (.cells #[.slice y1 ns.length y2, .int .i64 (l : Nat), .slice x1 N0 x2] 34))
    have BBX := Lib.hid (B1'.trans ((below1 _ (.cells #[.slice y1 ns.length y2, .int .i64 (l : Nat), .slice x1 N0 x2] 34)).mono B1'.size))
    have BX := Lib.hid BX
    have zX : ((w1.setCell ⟨w.heap.size, 1, none⟩ (.int .i64 (l : Nat))).alloc (.cells #[.slice y1 ns.length y2, .int .i64 (l : Nat), .slice x1 N0 x2] 34)).heap.size = w1.heap.size + 1 := by simp [World.setCell]
    clear hs1 hn1 hvs hve kk zs S1 N1 G1' B1' hN0 NL
    by_cases h3 : op < 5
    · clear SX NX CX BX zX
      go_wp2
      go_ret
      exact ⟨rfl, BBX.out⟩
    by_cases h19 : 11 < op
    · clear SX NX CX BX zX
      go_wp2
      go_ret
      exact ⟨rfl, BBX.out⟩
    have q3 : decide (op < 5) = false := by simp; omega
    have q19 : decide (11 < op) = false := by simp; omega
    have g2 := cell_of_heap (o := 2) G1.out rfl
    have g3 := cell_of_heap (o := 3) G1.out rfl
    have g4 := cell_of_heap (o := 4) G1.out rfl
    have g5 := cell_of_heap (o := 5) G1.out rfl
    have g6 := cell_of_heap (o := 6) G1.out rfl
    have g7 := cell_of_heap (o := 7) G1.out rfl
    go_wp2_with fail
    generalize hwX : (w1.setCell ⟨w.heap.size, 1, none⟩ (.int .i64 (l : Nat))).alloc (.cells #[.slice y1 ns.length y2, .int .i64 (l : Nat), .slice x1 N0 x2] 34) = wX at *
    refine (with_c (l := l) (ns := ns) (cl := [(⟨op, (l : Nat), other, elem, mark, ⟨vk, vn, vt⟩⟩ : Cl)]) (SX.out.later (below1 wX _)) (scr_lit wX [(⟨op, (l : Nat), other, elem, mark, ⟨vk, vn, vt⟩⟩ : Cl)] 29 (w1.heap.size + 1) 1 zX rfl (by simpa using CO.out)) ⟨_, _, _, rfl⟩ (by simp; omega)).mono ?_
    rintro r w3 ⟨v3, rfl, s3, hb3⟩
    have hb3' := (below1 wX _).trans (hb3.mono (by simp))
    have PM := Lib.hid (permittedL_c s3.sl (by simp; omega))
    have HB3 := Lib.hid hb3'
    clear hb3 hb3' s3 hwX g0 g1 g2 g3 g4 g5 g6 g7 gf
    go_wp2_with fail
    refine PM.out.mono ?_
    rintro r w4 ⟨rfl, hb4⟩
    have HB4 := Lib.hid (HB3.out.trans (hb4.mono HB3.out.size))
    have B4 := Lib.hid (BBX.out.trans (HB4.out.mono BBX.out.size))
    clear hb4 PM HB3
    cases hok : okFrom 500 Md.init (ns ++ [(⟨op, (l : Nat), other, elem, mark, ⟨vk, vn, vt⟩⟩ : Cl)].map (onL l)) with
    | false =>
      clear hok
      go_wp2
      go_ret
      exact ⟨rfl, B4.out⟩
    | true =>
      have hok' : okFrom 500 Md.init (ns ++ [(⟨op, (l : Nat), other, elem, mark, ⟨vk, vn, vt⟩⟩ : Cl)]) = true := hok
      have OK := Lib.hid hok'
      rw [okFrom_append, SC.out.ok] at hok'
      simp only [okFrom, Bool.and_true, Bool.true_and] at hok'
      have hp := (permitted_iff _ _ _).1 hok'
      have HP := Lib.hid hp
      have S4 := Lib.hid (SX.out.later HB4.out)
      have N4 := Lib.hid (NX.out.later HB4.out)
      have CX4 := Lib.hid (heap_later CX.out HB4.out)
      have BX4 := Lib.hid (heap_later BX.out HB4.out)
      have z4 : w1.heap.size < w4.heap.size := (Array.getElem?_eq_some_iff.1 BX4.out).1
      clear hok hok' hp SX NX CX BX zX HB4 BBX
      have c0 := cell_of_heap (o := 0) CX4.out rfl
      have NLE := HNL.out
      clear q3 q19
      go_upto_region 6 with fail
      go_cut [10] (fun s wc => s = .bool (decide (op = 5 ∨ op = 6 ∨ op = 9 ∨ op = 10)) ∧ wc = w4)
      case first =>
        rcases (show op = 5 ∨ op = 6 ∨ op = 7 ∨ op = 8 ∨ op = 9 ∨ op = 10 ∨ op = 11 by omega) with rfl | rfl | rfl | rfl | rfl | rfl | rfl
        all_goals
          clear h3 h19
          go_wp2
          go_meet
        all_goals exact ⟨by simp, rfl⟩
      case rest =>
      obtain ⟨rfl, hwc⟩ := hcut
      rw [hwc]
      clear hwc
      go_upto_region 8 with fail
      go_cut [12] (fun s wd => s = .bool (decide (op = 9 ∨ op = 10)) ∧ wd = w4)
      case first =>
        rcases (show op = 5 ∨ op = 6 ∨ op = 7 ∨ op = 8 ∨ op = 9 ∨ op = 10 ∨ op = 11 by omega) with rfl | rfl | rfl | rfl | rfl | rfl | rfl
        all_goals
          clear h3 h19
          go_wp2
          go_meet
        all_goals exact ⟨by simp, rfl⟩
      case rest =>
      obtain ⟨rfl, hwc⟩ := hcut
      rw [hwc]
      clear hwc c0
      go_upto_region 9 with fail
      generalize h10 : decide (op = 5 ∨ op = 6 ∨ op = 9 ∨ op = 10) = q10
      generalize h11 : decide (7 ≤ op) = q11
      generalize h12 : decide (op = 9 ∨ op = 10) = q12
      have Q10 := Lib.hid h10; have Q11 := Lib.hid h11; have Q12 := Lib.hid h12
      clear h10 h11 h12
      go_cut [102] (fun s wz => ∃ b : Bool, s = .bool b ∧ (b = false → Strange (runFrom Md.init ns) l (⟨op, (l : Nat), other, elem, mark, ⟨vk, vn, vt⟩⟩ : Cl)) ∧ Below w4.heap.size w4 wz)
      case first =>
        rcases (show (op = 5 ∨ op = 6) ∨ (op = 7 ∨ op = 8 ∨ op = 11) ∨ (op = 9 ∨ op = 10) by omega) with hA | hA | hA
        · obtain rfl : q10 = true := by rw [← Q10.out]; simp; omega
          obtain rfl : q11 = false := by rw [← Q11.out]; simp; omega
          obtain rfl : q12 = false := by rw [← Q12.out]; simp; omega
          obtain ⟨h0, _, xm, hxm⟩ := HP.out.mark (by show op = 5 ∨ op = 6 ∨ op = 9 ∨ op = 10; omega)
          simp only at h0 hxm
          obtain ⟨im, rfl⟩ : ∃ im : Nat, mark = (im : Nat) := ⟨mark.toNat, by omega⟩
          rw [Int.toNat_natCast] at hxm
          have XM := Lib.hid hxm
          clear h0 hxm
          clear Q10 Q11 Q12
          have HSW : Hid (∀ W, Below w4.heap.size w4 W → (fun X : World => X.cell? ⟨w1.heap.size, 0, none⟩ = some (.slice y1 ns.length y2) ∧ X.cell? ⟨w1.heap.size, 1, none⟩ = some (.int .i64 (l : Nat)) ∧ X.cell? ⟨w1.heap.size, 2, none⟩ = some (.slice x1 N0 x2) ∧ X.cell? ⟨w.heap.size, 0, none⟩ = some (.int .i64 op) ∧ X.cell? ⟨w.heap.size, 1, none⟩ = some (.int .i64 (l : Nat)) ∧ X.cell? ⟨w.heap.size, 2, none⟩ = some (.int .i64 other) ∧ X.cell? ⟨w.heap.size, 3, none⟩ = some (.int .i64 elem) ∧ X.cell? ⟨w.heap.size, 4, none⟩ = some (.int .i64 (im : Nat)) ∧ X.cell? ⟨w.heap.size, 5, none⟩ = some (.int .i64 vk) ∧ X.cell? ⟨w.heap.size, 6, none⟩ = some (.int .i64 vn) ∧ X.cell? ⟨w.heap.size, 7, none⟩ = some (.string vt)) W) := fun W hb => ⟨cell_of_heap (o := 0) (heap_later BX4.out hb) rfl, cell_of_heap (o := 1) (heap_later BX4.out hb) rfl, cell_of_heap (o := 2) (heap_later BX4.out hb) rfl, cell_of_heap (o := 0) (heap_later CX4.out hb) rfl, cell_of_heap (o := 1) (heap_later CX4.out hb) rfl, cell_of_heap (o := 2) (heap_later CX4.out hb) rfl, cell_of_heap (o := 3) (heap_later CX4.out hb) rfl, cell_of_heap (o := 4) (heap_later CX4.out hb) rfl, cell_of_heap (o := 5) (heap_later CX4.out hb) rfl, cell_of_heap (o := 6) (heap_later CX4.out hb) rfl, cell_of_heap (o := 7) (heap_later CX4.out hb) rfl⟩
          refine wp_region_T (fun X : World => X.cell? ⟨w1.heap.size, 0, none⟩ = some (.slice y1 ns.length y2) ∧ X.cell? ⟨w1.heap.size, 1, none⟩ = some (.int .i64 (l : Nat)) ∧ X.cell? ⟨w1.heap.size, 2, none⟩ = some (.slice x1 N0 x2) ∧ X.cell? ⟨w.heap.size, 0, none⟩ = some (.int .i64 op) ∧ X.cell? ⟨w.heap.size, 1, none⟩ = some (.int .i64 (l : Nat)) ∧ X.cell? ⟨w.heap.size, 2, none⟩ = some (.int .i64 other) ∧ X.cell? ⟨w.heap.size, 3, none⟩ = some (.int .i64 elem) ∧ X.cell? ⟨w.heap.size, 4, none⟩ = some (.int .i64 (im : Nat)) ∧ X.cell? ⟨w.heap.size, 5, none⟩ = some (.int .i64 vk) ∧ X.cell? ⟨w.heap.size, 6, none⟩ = some (.int .i64 vn) ∧ X.cell? ⟨w.heap.size, 7, none⟩ = some (.string vt)) [5, 13, 22, 26] [] run_mixed ?_
          simp only [List.size_toArray, List.length_cons, List.length_nil]
          have H0 : Hid (Below w4.heap.size w4 w4.drew) := (Below.refl _ w4).drew
          generalize w4.drew = wk at *
          have HSz1 := HSW.out _ H0.out
          refine wpT_takeG (i := 0) (v := ?vz10) rfl (by kernel_rfl) (fun _ _ _ h => h) rfl ?yz10 ?rz10
          case yz10 => ((intro wz; go_simp); try with_reducible rfl)
          try simp only [Act.put, List.setIfInBounds_toArray, List.set_cons_zero, List.set_cons_succ]
          refine wpT_takeG (i := 1) (v := ?vz11) rfl (by kernel_rfl) (fun _ _ _ h => h) rfl ?yz11 ?rz11
          case yz11 => ((intro wz; go_simp); try with_reducible rfl)
          try simp only [Act.put, List.setIfInBounds_toArray, List.set_cons_zero, List.set_cons_succ]
          refine wpT_takeG (i := 2) (v := ?vz12) rfl (by kernel_rfl) (fun _ _ _ h => h) rfl ?yz12 ?rz12
          case yz12 => ((intro wz; go_simp); try with_reducible rfl)
          try simp only [Act.put, List.setIfInBounds_toArray, List.set_cons_zero, List.set_cons_succ]
          refine wpT_takeG (i := 3) (v := ?vz13) rfl (by kernel_rfl) (fun _ _ _ h => h) rfl ?yz13 ?rz13
          case yz13 => ((intro wz; go_simp); try with_reducible rfl)
          try simp only [Act.put, List.setIfInBounds_toArray, List.set_cons_zero, List.set_cons_succ]
          refine wpT_loadG (i := 4) (v := ?vz14) rfl (by kernel_rfl) (fun _ _ _ h => h) rfl ?yz14 HSz1 ?rz14
          case yz14 => ((intro wz hSw; (try dsimp only at hSw); go_split_ands; go_simp); try with_reducible rfl)
          try simp only [Act.put, List.setIfInBounds_toArray, List.set_cons_zero, List.set_cons_succ]
          clear HSz1
          refine wpT_runG (i := 5) (by kernel_rfl) rfl rfl ?_
          go_simp
          refine (foreign1_c (heap_later BX4.out H0.out) (S4.out.later H0.out) SC.out.ok XM.out (N4.out.later H0.out) (by rw [NLE]; omega) (by omega)).mono ?_
          rintro r wz2 ⟨kz2, rfl, hkz2, hbz2⟩
          have Hz2 := Lib.hid (H0.out.trans (hbz2.mono H0.out.size))
          refine ⟨cond_keep (by decide) (HSW.out _ Hz2.out), ?_⟩
          have hiffz2 := name_iff2 SC.out hkz2
          by_cases hinz2 : xm ∈ (runFrom Md.init ns).seq l
          · rw [decide_eq_true (hiffz2.2 hinz2)]
            simp only [Bool.not_true]
            have INz2 := Lib.hid hinz2
            clear hiffz2 hinz2 hbz2 hkz2
            refine wpT_takeG (i := 6) (v := ?vz36) rfl (by kernel_rfl) (fun _ _ _ h => h) rfl ?yz36 ?rz36
            case yz36 => ((intro wz; go_simp); try with_reducible rfl)
            try simp only [Act.put, List.setIfInBounds_toArray, List.set_cons_zero, List.set_cons_succ]
            refine wpT_takeG (i := 7) (v := ?vz37) rfl (by kernel_rfl) (fun _ _ _ h => h) rfl ?yz37 ?rz37
            case yz37 => ((intro wz; go_simp); try with_reducible rfl)
            try simp only [Act.put, List.setIfInBounds_toArray, List.set_cons_zero, List.set_cons_succ]
            refine wpT_takeG (i := 8) (v := ?vz38) rfl (by kernel_rfl) (fun _ _ _ h => h) rfl ?yz38 ?rz38
            case yz38 => ((intro wz; go_simp); try with_reducible rfl)
            try simp only [Act.put, List.setIfInBounds_toArray, List.set_cons_zero, List.set_cons_succ]
            refine wpT_takeG (i := 9) (v := ?vz39) rfl (by kernel_rfl) (fun _ _ _ h => h) rfl ?yz39 ?rz39
            case yz39 => ((intro wz; go_simp); try with_reducible rfl)
            try simp only [Act.put, List.setIfInBounds_toArray, List.set_cons_zero, List.set_cons_succ]
            refine wpT_skip2 (i := 10) rfl (by kernel_rfl) (fun _ _ _ h => h) rfl ?_
            try simp only [Act.put, List.setIfInBounds_toArray, List.set_cons_zero, List.set_cons_succ]
            refine wpT_skip2 (i := 11) rfl (by kernel_rfl) (fun _ _ _ h => h) rfl ?_
            try simp only [Act.put, List.setIfInBounds_toArray, List.set_cons_zero, List.set_cons_succ]
            refine wpT_skip2 (i := 12) rfl (by kernel_rfl) (fun _ _ _ h => h) rfl ?_
            try simp only [Act.put, List.setIfInBounds_toArray, List.set_cons_zero, List.set_cons_succ]
            refine wpT_pass (i := 13) (by kernel_rfl) rfl rfl (HSW.out _ Hz2.out) (by decide) ?_
            try simp only [Act.put, List.setIfInBounds_toArray, List.set_cons_zero, List.set_cons_succ]
            refine wpT_takeG (i := 14) (v := ?vz414) rfl (by kernel_rfl) (fun _ _ _ h => h) rfl ?yz414 ?rz414
            case yz414 => ((intro wz; go_simp); try with_reducible rfl)
            try simp only [Act.put, List.setIfInBounds_toArray, List.set_cons_zero, List.set_cons_succ]
            refine wpT_takeG (i := 15) (v := ?vz415) rfl (by kernel_rfl) (fun _ _ _ h => h) rfl ?yz415 ?rz415
            case yz415 => ((intro wz; go_simp); try with_reducible rfl)
            try simp only [Act.put, List.setIfInBounds_toArray, List.set_cons_zero, List.set_cons_succ]
            refine wpT_takeG (i := 16) (v := ?vz416) rfl (by kernel_rfl) (fun _ _ _ h => h) rfl ?yz416 ?rz416
            case yz416 => ((intro wz; go_simp); try with_reducible rfl)
            try simp only [Act.put, List.setIfInBounds_toArray, List.set_cons_zero, List.set_cons_succ]
            refine wpT_takeG (i := 17) (v := ?vz417) rfl (by kernel_rfl) (fun _ _ _ h => h) rfl ?yz417 ?rz417
            case yz417 => ((intro wz; go_simp); try with_reducible rfl)
            try simp only [Act.put, List.setIfInBounds_toArray, List.set_cons_zero, List.set_cons_succ]
            refine wpT_takeG (i := 18) (v := ?vz418) rfl (by kernel_rfl) (fun _ _ _ h => h) rfl ?yz418 ?rz418
            case yz418 => ((intro wz; go_simp); try with_reducible rfl)
            try simp only [Act.put, List.setIfInBounds_toArray, List.set_cons_zero, List.set_cons_succ]
            refine wpT_skip2 (i := 19) rfl (by kernel_rfl) (fun _ _ _ h => h) rfl ?_
            try simp only [Act.put, List.setIfInBounds_toArray, List.set_cons_zero, List.set_cons_succ]
            refine wpT_skip2 (i := 20) rfl (by kernel_rfl) (fun _ _ _ h => h) rfl ?_
            try simp only [Act.put, List.setIfInBounds_toArray, List.set_cons_zero, List.set_cons_succ]
            refine wpT_skip2 (i := 21) rfl (by kernel_rfl) (fun _ _ _ h => h) rfl ?_
            try simp only [Act.put, List.setIfInBounds_toArray, List.set_cons_zero, List.set_cons_succ]
            refine wpT_skip2 (i := 23) rfl (by kernel_rfl) (fun _ _ _ h => h) rfl ?_
            try simp only [Act.put, List.setIfInBounds_toArray, List.set_cons_zero, List.set_cons_succ]
            refine wpT_skip2 (i := 24) rfl (by kernel_rfl) (fun _ _ _ h => h) rfl ?_
            try simp only [Act.put, List.setIfInBounds_toArray, List.set_cons_zero, List.set_cons_succ]
            refine wpT_skip2 (i := 25) rfl (by kernel_rfl) (fun _ _ _ h => h) rfl ?_
            try simp only [Act.put, List.setIfInBounds_toArray, List.set_cons_zero, List.set_cons_succ]
            refine wpT_pass (i := 22) (by kernel_rfl) rfl rfl (HSW.out _ Hz2.out) (by decide) ?_
            try simp only [Act.put, List.setIfInBounds_toArray, List.set_cons_zero, List.set_cons_succ]
            refine wpT_pass (i := 26) (by kernel_rfl) rfl rfl (HSW.out _ Hz2.out) (by decide) ?_
            try simp only [Act.put, List.setIfInBounds_toArray, List.set_cons_zero, List.set_cons_succ]
            refine wpT_skip2 (i := 27) rfl (by kernel_rfl) (fun _ _ _ h => h) rfl ?_
            try simp only [Act.put, List.setIfInBounds_toArray, List.set_cons_zero, List.set_cons_succ]
            refine wpT_takeG (i := 28) (v := ?vz528) rfl (by kernel_rfl) (fun _ _ _ h => h) rfl ?yz528 ?rz528
            case yz528 => ((intro wz; go_simp); try with_reducible rfl)
            try simp only [Act.put, List.setIfInBounds_toArray, List.set_cons_zero, List.set_cons_succ]
            refine wpT_takeG (i := 29) (v := ?vz529) rfl (by kernel_rfl) (fun _ _ _ h => h) rfl ?yz529 ?rz529
            case yz529 => ((intro wz; go_simp); try with_reducible rfl)
            try simp only [Act.put, List.setIfInBounds_toArray, List.set_cons_zero, List.set_cons_succ]
            refine wpT_takeG (i := 30) (v := ?vz530) rfl (by kernel_rfl) (fun _ _ _ h => h) rfl ?yz530 ?rz530
            case yz530 => ((intro wz; go_simp); try with_reducible rfl)
            try simp only [Act.put, List.setIfInBounds_toArray, List.set_cons_zero, List.set_cons_succ]
            refine wpT_done (by kernel_rfl) ?_ _
            go_wp2
            go_meet
            case rel => exact ⟨_, rfl, fun q => absurd q (by decide), Hz2.out⟩
          · rw [decide_eq_false (fun q => hinz2 (hiffz2.1 q))]
            simp only [Bool.not_false]
            have INz2 := Lib.hid hinz2
            clear hiffz2 hinz2 hbz2 hkz2
            refine wpT_takeG (i := 6) (v := ?vz66) rfl (by kernel_rfl) (fun _ _ _ h => h) rfl ?yz66 ?rz66
            case yz66 => ((intro wz; go_simp); try with_reducible rfl)
            try simp only [Act.put, List.setIfInBounds_toArray, List.set_cons_zero, List.set_cons_succ]
            refine wpT_takeG (i := 7) (v := ?vz67) rfl (by kernel_rfl) (fun _ _ _ h => h) rfl ?yz67 ?rz67
            case yz67 => ((intro wz; go_simp); try with_reducible rfl)
            try simp only [Act.put, List.setIfInBounds_toArray, List.set_cons_zero, List.set_cons_succ]
            refine wpT_skip2 (i := 8) rfl (by kernel_rfl) (fun _ _ _ h => h) rfl ?_
            try simp only [Act.put, List.setIfInBounds_toArray, List.set_cons_zero, List.set_cons_succ]
            refine wpT_skip2 (i := 9) rfl (by kernel_rfl) (fun _ _ _ h => h) rfl ?_
            try simp only [Act.put, List.setIfInBounds_toArray, List.set_cons_zero, List.set_cons_succ]
            refine wpT_skip2 (i := 10) rfl (by kernel_rfl) (fun _ _ _ h => h) rfl ?_
            try simp only [Act.put, List.setIfInBounds_toArray, List.set_cons_zero, List.set_cons_succ]
            refine wpT_skip2 (i := 11) rfl (by kernel_rfl) (fun _ _ _ h => h) rfl ?_
            try simp only [Act.put, List.setIfInBounds_toArray, List.set_cons_zero, List.set_cons_succ]
            refine wpT_skip2 (i := 12) rfl (by kernel_rfl) (fun _ _ _ h => h) rfl ?_
            try simp only [Act.put, List.setIfInBounds_toArray, List.set_cons_zero, List.set_cons_succ]
            refine wpT_pass (i := 13) (by kernel_rfl) rfl rfl (HSW.out _ Hz2.out) (by decide) ?_
            try simp only [Act.put, List.setIfInBounds_toArray, List.set_cons_zero, List.set_cons_succ]
            refine wpT_skip2 (i := 14) rfl (by kernel_rfl) (fun _ _ _ h => h) rfl ?_
            try simp only [Act.put, List.setIfInBounds_toArray, List.set_cons_zero, List.set_cons_succ]
            refine wpT_takeG (i := 15) (v := ?vz715) rfl (by kernel_rfl) (fun _ _ _ h => h) rfl ?yz715 ?rz715
            case yz715 => ((intro wz; go_simp); try with_reducible rfl)
            try simp only [Act.put, List.setIfInBounds_toArray, List.set_cons_zero, List.set_cons_succ]
            refine wpT_takeG (i := 16) (v := ?vz716) rfl (by kernel_rfl) (fun _ _ _ h => h) rfl ?yz716 ?rz716
            case yz716 => ((intro wz; go_simp); try with_reducible rfl)
            try simp only [Act.put, List.setIfInBounds_toArray, List.set_cons_zero, List.set_cons_succ]
            refine wpT_skip2 (i := 17) rfl (by kernel_rfl) (fun _ _ _ h => h) rfl ?_
            try simp only [Act.put, List.setIfInBounds_toArray, List.set_cons_zero, List.set_cons_succ]
            refine wpT_skip2 (i := 18) rfl (by kernel_rfl) (fun _ _ _ h => h) rfl ?_
            try simp only [Act.put, List.setIfInBounds_toArray, List.set_cons_zero, List.set_cons_succ]
            refine wpT_skip2 (i := 19) rfl (by kernel_rfl) (fun _ _ _ h => h) rfl ?_
            try simp only [Act.put, List.setIfInBounds_toArray, List.set_cons_zero, List.set_cons_succ]
            refine wpT_skip2 (i := 20) rfl (by kernel_rfl) (fun _ _ _ h => h) rfl ?_
            try simp only [Act.put, List.setIfInBounds_toArray, List.set_cons_zero, List.set_cons_succ]
            refine wpT_skip2 (i := 21) rfl (by kernel_rfl) (fun _ _ _ h => h) rfl ?_
            try simp only [Act.put, List.setIfInBounds_toArray, List.set_cons_zero, List.set_cons_succ]
            refine wpT_skip2 (i := 23) rfl (by kernel_rfl) (fun _ _ _ h => h) rfl ?_
            try simp only [Act.put, List.setIfInBounds_toArray, List.set_cons_zero, List.set_cons_succ]
            refine wpT_skip2 (i := 24) rfl (by kernel_rfl) (fun _ _ _ h => h) rfl ?_
            try simp only [Act.put, List.setIfInBounds_toArray, List.set_cons_zero, List.set_cons_succ]
            refine wpT_skip2 (i := 25) rfl (by kernel_rfl) (fun _ _ _ h => h) rfl ?_
            try simp only [Act.put, List.setIfInBounds_toArray, List.set_cons_zero, List.set_cons_succ]
            refine wpT_pass (i := 22) (by kernel_rfl) rfl rfl (HSW.out _ Hz2.out) (by decide) ?_
            try simp only [Act.put, List.setIfInBounds_toArray, List.set_cons_zero, List.set_cons_succ]
            refine wpT_pass (i := 26) (by kernel_rfl) rfl rfl (HSW.out _ Hz2.out) (by decide) ?_
            try simp only [Act.put, List.setIfInBounds_toArray, List.set_cons_zero, List.set_cons_succ]
            refine wpT_skip2 (i := 27) rfl (by kernel_rfl) (fun _ _ _ h => h) rfl ?_
            try simp only [Act.put, List.setIfInBounds_toArray, List.set_cons_zero, List.set_cons_succ]
            refine wpT_skip2 (i := 28) rfl (by kernel_rfl) (fun _ _ _ h => h) rfl ?_
            try simp only [Act.put, List.setIfInBounds_toArray, List.set_cons_zero, List.set_cons_succ]
            refine wpT_takeG (i := 29) (v := ?vz829) rfl (by kernel_rfl) (fun _ _ _ h => h) rfl ?yz829 ?rz829
            case yz829 => ((intro wz; go_simp); try with_reducible rfl)
            try simp only [Act.put, List.setIfInBounds_toArray, List.set_cons_zero, List.set_cons_succ]
            refine wpT_takeG (i := 30) (v := ?vz830) rfl (by kernel_rfl) (fun _ _ _ h => h) rfl ?yz830 ?rz830
            case yz830 => ((intro wz; go_simp); try with_reducible rfl)
            try simp only [Act.put, List.setIfInBounds_toArray, List.set_cons_zero, List.set_cons_succ]
            refine wpT_done (by kernel_rfl) ?_ _
            go_wp2
            go_meet
            case rel => exact ⟨_, rfl, (fun _ => .inl ⟨by show op = 5 ∨ op = 6 ∨ op = 9 ∨ op = 10; omega, xm, by simpa using XM.out, INz2.out⟩), Hz2.out⟩
        · obtain rfl : q10 = false := by rw [← Q10.out]; simp; omega
          obtain rfl : q11 = true := by rw [← Q11.out]; simp; omega
          obtain rfl : q12 = false := by rw [← Q12.out]; simp; omega
          obtain ⟨h1, _, xe, hxe⟩ := HP.out.elem (by show (7 ≤ op ∧ op ≤ 11) ∨ 18 ≤ op; omega)
          simp only at h1 hxe
          obtain ⟨ie, rfl⟩ : ∃ ie : Nat, elem = (ie : Nat) := ⟨elem.toNat, by omega⟩
          rw [Int.toNat_natCast] at hxe
          have XE := Lib.hid hxe
          clear h1 hxe
          clear Q10 Q11 Q12
          have HSW : Hid (∀ W, Below w4.heap.size w4 W → (fun X : World => X.cell? ⟨w1.heap.size, 0, none⟩ = some (.slice y1 ns.length y2) ∧ X.cell? ⟨w1.heap.size, 1, none⟩ = some (.int .i64 (l : Nat)) ∧ X.cell? ⟨w1.heap.size, 2, none⟩ = some (.slice x1 N0 x2) ∧ X.cell? ⟨w.heap.size, 0, none⟩ = some (.int .i64 op) ∧ X.cell? ⟨w.heap.size, 1, none⟩ = some (.int .i64 (l : Nat)) ∧ X.cell? ⟨w.heap.size, 2, none⟩ = some (.int .i64 other) ∧ X.cell? ⟨w.heap.size, 3, none⟩ = some (.int .i64 (ie : Nat)) ∧ X.cell? ⟨w.heap.size, 4, none⟩ = some (.int .i64 mark) ∧ X.cell? ⟨w.heap.size, 5, none⟩ = some (.int .i64 vk) ∧ X.cell? ⟨w.heap.size, 6, none⟩ = some (.int .i64 vn) ∧ X.cell? ⟨w.heap.size, 7, none⟩ = some (.string vt)) W) := fun W hb => ⟨cell_of_heap (o := 0) (heap_later BX4.out hb) rfl, cell_of_heap (o := 1) (heap_later BX4.out hb) rfl, cell_of_heap (o := 2) (heap_later BX4.out hb) rfl, cell_of_heap (o := 0) (heap_later CX4.out hb) rfl, cell_of_heap (o := 1) (heap_later CX4.out hb) rfl, cell_of_heap (o := 2) (heap_later CX4.out hb) rfl, cell_of_heap (o := 3) (heap_later CX4.out hb) rfl, cell_of_heap (o := 4) (heap_later CX4.out hb) rfl, cell_of_heap (o := 5) (heap_later CX4.out hb) rfl, cell_of_heap (o := 6) (heap_later CX4.out hb) rfl, cell_of_heap (o := 7) (heap_later CX4.out hb) rfl⟩
          refine wp_region_T (fun X : World => X.cell? ⟨w1.heap.size, 0, none⟩ = some (.slice y1 ns.length y2) ∧ X.cell? ⟨w1.heap.size, 1, none⟩ = some (.int .i64 (l : Nat)) ∧ X.cell? ⟨w1.heap.size, 2, none⟩ = some (.slice x1 N0 x2) ∧ X.cell? ⟨w.heap.size, 0, none⟩ = some (.int .i64 op) ∧ X.cell? ⟨w.heap.size, 1, none⟩ = some (.int .i64 (l : Nat)) ∧ X.cell? ⟨w.heap.size, 2, none⟩ = some (.int .i64 other) ∧ X.cell? ⟨w.heap.size, 3, none⟩ = some (.int .i64 (ie : Nat)) ∧ X.cell? ⟨w.heap.size, 4, none⟩ = some (.int .i64 mark) ∧ X.cell? ⟨w.heap.size, 5, none⟩ = some (.int .i64 vk) ∧ X.cell? ⟨w.heap.size, 6, none⟩ = some (.int .i64 vn) ∧ X.cell? ⟨w.heap.size, 7, none⟩ = some (.string vt)) [5, 13, 22, 26] [] run_mixed ?_
          simp only [List.size_toArray, List.length_cons, List.length_nil]
          have H0 : Hid (Below w4.heap.size w4 w4.drew) := (Below.refl _ w4).drew
          generalize w4.drew = wk at *
          refine wpT_takeG (i := 0) (v := ?vz90) rfl (by kernel_rfl) (fun _ _ _ h => h) rfl ?yz90 ?rz90
          case yz90 => ((intro wz; go_simp); try with_reducible rfl)
          try simp only [Act.put, List.setIfInBounds_toArray, List.set_cons_zero, List.set_cons_succ]
          refine wpT_takeG (i := 1) (v := ?vz91) rfl (by kernel_rfl) (fun _ _ _ h => h) rfl ?yz91 ?rz91
          case yz91 => ((intro wz; go_simp); try with_reducible rfl)
          try simp only [Act.put, List.setIfInBounds_toArray, List.set_cons_zero, List.set_cons_succ]
          refine wpT_skip2 (i := 2) rfl (by kernel_rfl) (fun _ _ _ h => h) rfl ?_
          try simp only [Act.put, List.setIfInBounds_toArray, List.set_cons_zero, List.set_cons_succ]
          refine wpT_skip2 (i := 3) rfl (by kernel_rfl) (fun _ _ _ h => h) rfl ?_
          try simp only [Act.put, List.setIfInBounds_toArray, List.set_cons_zero, List.set_cons_succ]
          refine wpT_skip2 (i := 4) rfl (by kernel_rfl) (fun _ _ _ h => h) rfl ?_
          try simp only [Act.put, List.setIfInBounds_toArray, List.set_cons_zero, List.set_cons_succ]
          refine wpT_pass (i := 5) (by kernel_rfl) rfl rfl (HSW.out _ H0.out) (by decide) ?_
          try simp only [Act.put, List.setIfInBounds_toArray, List.set_cons_zero, List.set_cons_succ]
          have HSz10 := HSW.out _ H0.out
          refine wpT_takeG (i := 6) (v := ?vz106) rfl (by kernel_rfl) (fun _ _ _ h => h) rfl ?yz106 ?rz106
          case yz106 => ((intro wz; go_simp); try with_reducible rfl)
          try simp only [Act.put, List.setIfInBounds_toArray, List.set_cons_zero, List.set_cons_succ]
          refine wpT_takeG (i := 7) (v := ?vz107) rfl (by kernel_rfl) (fun _ _ _ h => h) rfl ?yz107 ?rz107
          case yz107 => ((intro wz; go_simp); try with_reducible rfl)
          try simp only [Act.put, List.setIfInBounds_toArray, List.set_cons_zero, List.set_cons_succ]
          refine wpT_takeG (i := 8) (v := ?vz108) rfl (by kernel_rfl) (fun _ _ _ h => h) rfl ?yz108 ?rz108
          case yz108 => ((intro wz; go_simp); try with_reducible rfl)
          try simp only [Act.put, List.setIfInBounds_toArray, List.set_cons_zero, List.set_cons_succ]
          refine wpT_takeG (i := 9) (v := ?vz109) rfl (by kernel_rfl) (fun _ _ _ h => h) rfl ?yz109 ?rz109
          case yz109 => ((intro wz; go_simp); try with_reducible rfl)
          try simp only [Act.put, List.setIfInBounds_toArray, List.set_cons_zero, List.set_cons_succ]
          refine wpT_takeG (i := 10) (v := ?vz1010) rfl (by kernel_rfl) (fun _ _ _ h => h) rfl ?yz1010 ?rz1010
          case yz1010 => ((intro wz; go_simp); try with_reducible rfl)
          try simp only [Act.put, List.setIfInBounds_toArray, List.set_cons_zero, List.set_cons_succ]
          refine wpT_takeG (i := 11) (v := ?vz1011) rfl (by kernel_rfl) (fun _ _ _ h => h) rfl ?yz1011 ?rz1011
          case yz1011 => ((intro wz; go_simp); try with_reducible rfl)
          try simp only [Act.put, List.setIfInBounds_toArray, List.set_cons_zero, List.set_cons_succ]
          refine wpT_loadG (i := 12) (v := ?vz1012) rfl (by kernel_rfl) (fun _ _ _ h => h) rfl ?yz1012 HSz10 ?rz1012
          case yz1012 => ((intro wz hSw; (try dsimp only at hSw); go_split_ands; go_simp); try with_reducible rfl)
          try simp only [Act.put, List.setIfInBounds_toArray, List.set_cons_zero, List.set_cons_succ]
          clear HSz10
          refine wpT_runG (i := 13) (by kernel_rfl) rfl rfl ?_
          go_simp
          refine (foreign1_c (heap_later BX4.out H0.out) (S4.out.later H0.out) SC.out.ok XE.out (N4.out.later H0.out) (by rw [NLE]; omega) (by omega)).mono ?_
          rintro r wz11 ⟨kz11, rfl, hkz11, hbz11⟩
          have Hz11 := Lib.hid (H0.out.trans (hbz11.mono H0.out.size))
          refine ⟨cond_keep (by decide) (HSW.out _ Hz11.out), ?_⟩
          have hiffz11 := name_iff2 SC.out hkz11
          by_cases hinz11 : xe ∈ (runFrom Md.init ns).seq l
          · rw [decide_eq_true (hiffz11.2 hinz11)]
            simp only [Bool.not_true]
            have INz11 := Lib.hid hinz11
            clear hiffz11 hinz11 hbz11 hkz11
            refine wpT_takeG (i := 14) (v := ?vz1214) rfl (by kernel_rfl) (fun _ _ _ h => h) rfl ?yz1214 ?rz1214
            case yz1214 => ((intro wz; go_simp); try with_reducible rfl)
            try simp only [Act.put, List.setIfInBounds_toArray, List.set_cons_zero, List.set_cons_succ]
            refine wpT_takeG (i := 15) (v := ?vz1215) rfl (by kernel_rfl) (fun _ _ _ h => h) rfl ?yz1215 ?rz1215
            case yz1215 => ((intro wz; go_simp); try with_reducible rfl)
            try simp only [Act.put, List.setIfInBounds_toArray, List.set_cons_zero, List.set_cons_succ]
            refine wpT_takeG (i := 16) (v := ?vz1216) rfl (by kernel_rfl) (fun _ _ _ h => h) rfl ?yz1216 ?rz1216
            case yz1216 => ((intro wz; go_simp); try with_reducible rfl)
            try simp only [Act.put, List.setIfInBounds_toArray, List.set_cons_zero, List.set_cons_succ]
            refine wpT_takeG (i := 17) (v := ?vz1217) rfl (by kernel_rfl) (fun _ _ _ h => h) rfl ?yz1217 ?rz1217
            case yz1217 => ((intro wz; go_simp); try with_reducible rfl)
            try simp only [Act.put, List.setIfInBounds_toArray, List.set_cons_zero, List.set_cons_succ]
            refine wpT_takeG (i := 18) (v := ?vz1218) rfl (by kernel_rfl) (fun _ _ _ h => h) rfl ?yz1218 ?rz1218
            case yz1218 => ((intro wz; go_simp); try with_reducible rfl)
            try simp only [Act.put, List.setIfInBounds_toArray, List.set_cons_zero, List.set_cons_succ]
            refine wpT_skip2 (i := 19) rfl (by kernel_rfl) (fun _ _ _ h => h) rfl ?_
            try simp only [Act.put, List.setIfInBounds_toArray, List.set_cons_zero, List.set_cons_succ]
            refine wpT_skip2 (i := 20) rfl (by kernel_rfl) (fun _ _ _ h => h) rfl ?_
            try simp only [Act.put, List.setIfInBounds_toArray, List.set_cons_zero, List.set_cons_succ]
            refine wpT_skip2 (i := 21) rfl (by kernel_rfl) (fun _ _ _ h => h) rfl ?_
            try simp only [Act.put, List.setIfInBounds_toArray, List.set_cons_zero, List.set_cons_succ]
            refine wpT_skip2 (i := 23) rfl (by kernel_rfl) (fun _ _ _ h => h) rfl ?_
            try simp only [Act.put, List.setIfInBounds_toArray, List.set_cons_zero, List.set_cons_succ]
            refine wpT_skip2 (i := 24) rfl (by kernel_rfl) (fun _ _ _ h => h) rfl ?_
            try simp only [Act.put, List.setIfInBounds_toArray, List.set_cons_zero, List.set_cons_succ]
            refine wpT_skip2 (i := 25) rfl (by kernel_rfl) (fun _ _ _ h => h) rfl ?_
            try simp only [Act.put, List.setIfInBounds_toArray, List.set_cons_zero, List.set_cons_succ]
            refine wpT_pass (i := 22) (by kernel_rfl) rfl rfl (HSW.out _ Hz11.out) (by decide) ?_
            try simp only [Act.put, List.setIfInBounds_toArray, List.set_cons_zero, List.set_cons_succ]
            refine wpT_pass (i := 26) (by kernel_rfl) rfl rfl (HSW.out _ Hz11.out) (by decide) ?_
            try simp only [Act.put, List.setIfInBounds_toArray, List.set_cons_zero, List.set_cons_succ]
            refine wpT_skip2 (i := 27) rfl (by kernel_rfl) (fun _ _ _ h => h) rfl ?_
            try simp only [Act.put, List.setIfInBounds_toArray, List.set_cons_zero, List.set_cons_succ]
            refine wpT_takeG (i := 28) (v := ?vz1328) rfl (by kernel_rfl) (fun _ _ _ h => h) rfl ?yz1328 ?rz1328
            case yz1328 => ((intro wz; go_simp); try with_reducible rfl)
            try simp only [Act.put, List.setIfInBounds_toArray, List.set_cons_zero, List.set_cons_succ]
            refine wpT_takeG (i := 29) (v := ?vz1329) rfl (by kernel_rfl) (fun _ _ _ h => h) rfl ?yz1329 ?rz1329
            case yz1329 => ((intro wz; go_simp); try with_reducible rfl)
            try simp only [Act.put, List.setIfInBounds_toArray, List.set_cons_zero, List.set_cons_succ]
            refine wpT_takeG (i := 30) (v := ?vz1330) rfl (by kernel_rfl) (fun _ _ _ h => h) rfl ?yz1330 ?rz1330
            case yz1330 => ((intro wz; go_simp); try with_reducible rfl)
            try simp only [Act.put, List.setIfInBounds_toArray, List.set_cons_zero, List.set_cons_succ]
            refine wpT_done (by kernel_rfl) ?_ _
            go_wp2
            go_meet
            case rel => exact ⟨_, rfl, fun q => absurd q (by decide), Hz11.out⟩
          · rw [decide_eq_false (fun q => hinz11 (hiffz11.1 q))]
            simp only [Bool.not_false]
            have INz11 := Lib.hid hinz11
            clear hiffz11 hinz11 hbz11 hkz11
            refine wpT_takeG (i := 14) (v := ?vz1414) rfl (by kernel_rfl) (fun _ _ _ h => h) rfl ?yz1414 ?rz1414
            case yz1414 => ((intro wz; go_simp); try with_reducible rfl)
            try simp only [Act.put, List.setIfInBounds_toArray, List.set_cons_zero, List.set_cons_succ]
            refine wpT_takeG (i := 15) (v := ?vz1415) rfl (by kernel_rfl) (fun _ _ _ h => h) rfl ?yz1415 ?rz1415
            case yz1415 => ((intro wz; go_simp); try with_reducible rfl)
            try simp only [Act.put, List.setIfInBounds_toArray, List.set_cons_zero, List.set_cons_succ]
            refine wpT_takeG (i := 16) (v := ?vz1416) rfl (by kernel_rfl) (fun _ _ _ h => h) rfl ?yz1416 ?rz1416
            case yz1416 => ((intro wz; go_simp); try with_reducible rfl)
            try simp only [Act.put, List.setIfInBounds_toArray, List.set_cons_zero, List.set_cons_succ]
            refine wpT_skip2 (i := 17) rfl (by kernel_rfl) (fun _ _ _ h => h) rfl ?_
            try simp only [Act.put, List.setIfInBounds_toArray, List.set_cons_zero, List.set_cons_succ]
            refine wpT_skip2 (i := 18) rfl (by kernel_rfl) (fun _ _ _ h => h) rfl ?_
            try simp only [Act.put, List.setIfInBounds_toArray, List.set_cons_zero, List.set_cons_succ]
            refine wpT_skip2 (i := 19) rfl (by kernel_rfl) (fun _ _ _ h => h) rfl ?_
            try simp only [Act.put, List.setIfInBounds_toArray, List.set_cons_zero, List.set_cons_succ]
            refine wpT_skip2 (i := 20) rfl (by kernel_rfl) (fun _ _ _ h => h) rfl ?_
            try simp only [Act.put, List.setIfInBounds_toArray, List.set_cons_zero, List.set_cons_succ]
            refine wpT_skip2 (i := 21) rfl (by kernel_rfl) (fun _ _ _ h => h) rfl ?_
            try simp only [Act.put, List.setIfInBounds_toArray, List.set_cons_zero, List.set_cons_succ]
            refine wpT_skip2 (i := 23) rfl (by kernel_rfl) (fun _ _ _ h => h) rfl ?_
            try simp only [Act.put, List.setIfInBounds_toArray, List.set_cons_zero, List.set_cons_succ]
            refine wpT_skip2 (i := 24) rfl (by kernel_rfl) (fun _ _ _ h => h) rfl ?_
            try simp only [Act.put, List.setIfInBounds_toArray, List.set_cons_zero, List.set_cons_succ]
            refine wpT_skip2 (i := 25) rfl (by kernel_rfl) (fun _ _ _ h => h) rfl ?_
            try simp only [Act.put, List.setIfInBounds_toArray, List.set_cons_zero, List.set_cons_succ]
            refine wpT_pass (i := 22) (by kernel_rfl) rfl rfl (HSW.out _ Hz11.out) (by decide) ?_
            try simp only [Act.put, List.setIfInBounds_toArray, List.set_cons_zero, List.set_cons_succ]
            refine wpT_pass (i := 26) (by kernel_rfl) rfl rfl (HSW.out _ Hz11.out) (by decide) ?_
            try simp only [Act.put, List.setIfInBounds_toArray, List.set_cons_zero, List.set_cons_succ]
            refine wpT_skip2 (i := 27) rfl (by kernel_rfl) (fun _ _ _ h => h) rfl ?_
            try simp only [Act.put, List.setIfInBounds_toArray, List.set_cons_zero, List.set_cons_succ]
            refine wpT_skip2 (i := 28) rfl (by kernel_rfl) (fun _ _ _ h => h) rfl ?_
            try simp only [Act.put, List.setIfInBounds_toArray, List.set_cons_zero, List.set_cons_succ]
            refine wpT_takeG (i := 29) (v := ?vz1529) rfl (by kernel_rfl) (fun _ _ _ h => h) rfl ?yz1529 ?rz1529
            case yz1529 => ((intro wz; go_simp); try with_reducible rfl)
            try simp only [Act.put, List.setIfInBounds_toArray, List.set_cons_zero, List.set_cons_succ]
            refine wpT_takeG (i := 30) (v := ?vz1530) rfl (by kernel_rfl) (fun _ _ _ h => h) rfl ?yz1530 ?rz1530
            case yz1530 => ((intro wz; go_simp); try with_reducible rfl)
            try simp only [Act.put, List.setIfInBounds_toArray, List.set_cons_zero, List.set_cons_succ]
            refine wpT_done (by kernel_rfl) ?_ _
            go_wp2
            go_meet
            case rel => exact ⟨_, rfl, (fun _ => .inr (.inl ⟨by show 7 ≤ op; omega, xe, by simpa using XE.out, INz11.out⟩)), Hz11.out⟩
        · obtain rfl : q10 = true := by rw [← Q10.out]; simp; omega
          obtain rfl : q11 = true := by rw [← Q11.out]; simp; omega
          obtain rfl : q12 = true := by rw [← Q12.out]; simp; omega
          obtain ⟨h0, _, xm, hxm⟩ := HP.out.mark (by show op = 5 ∨ op = 6 ∨ op = 9 ∨ op = 10; omega)
          simp only at h0 hxm
          obtain ⟨im, rfl⟩ : ∃ im : Nat, mark = (im : Nat) := ⟨mark.toNat, by omega⟩
          rw [Int.toNat_natCast] at hxm
          have XM := Lib.hid hxm
          clear h0 hxm
          obtain ⟨h1, _, xe, hxe⟩ := HP.out.elem (by show (7 ≤ op ∧ op ≤ 11) ∨ 18 ≤ op; omega)
          simp only at h1 hxe
          obtain ⟨ie, rfl⟩ : ∃ ie : Nat, elem = (ie : Nat) := ⟨elem.toNat, by omega⟩
          rw [Int.toNat_natCast] at hxe
          have XE := Lib.hid hxe
          clear h1 hxe
          clear Q10 Q11 Q12
          have HSW : Hid (∀ W, Below w4.heap.size w4 W → (fun X : World => X.cell? ⟨w1.heap.size, 0, none⟩ = some (.slice y1 ns.length y2) ∧ X.cell? ⟨w1.heap.size, 1, none⟩ = some (.int .i64 (l : Nat)) ∧ X.cell? ⟨w1.heap.size, 2, none⟩ = some (.slice x1 N0 x2) ∧ X.cell? ⟨w.heap.size, 0, none⟩ = some (.int .i64 op) ∧ X.cell? ⟨w.heap.size, 1, none⟩ = some (.int .i64 (l : Nat)) ∧ X.cell? ⟨w.heap.size, 2, none⟩ = some (.int .i64 other) ∧ X.cell? ⟨w.heap.size, 3, none⟩ = some (.int .i64 (ie : Nat)) ∧ X.cell? ⟨w.heap.size, 4, none⟩ = some (.int .i64 (im : Nat)) ∧ X.cell? ⟨w.heap.size, 5, none⟩ = some (.int .i64 vk) ∧ X.cell? ⟨w.heap.size, 6, none⟩ = some (.int .i64 vn) ∧ X.cell? ⟨w.heap.size, 7, none⟩ = some (.string vt)) W) := fun W hb => ⟨cell_of_heap (o := 0) (heap_later BX4.out hb) rfl, cell_of_heap (o := 1) (heap_later BX4.out hb) rfl, cell_of_heap (o := 2) (heap_later BX4.out hb) rfl, cell_of_heap (o := 0) (heap_later CX4.out hb) rfl, cell_of_heap (o := 1) (heap_later CX4.out hb) rfl, cell_of_heap (o := 2) (heap_later CX4.out hb) rfl, cell_of_heap (o := 3) (heap_later CX4.out hb) rfl, cell_of_heap (o := 4) (heap_later CX4.out hb) rfl, cell_of_heap (o := 5) (heap_later CX4.out hb) rfl, cell_of_heap (o := 6) (heap_later CX4.out hb) rfl, cell_of_heap (o := 7) (heap_later CX4.out hb) rfl⟩
          refine wp_region_T (fun X : World => X.cell? ⟨w1.heap.size, 0, none⟩ = some (.slice y1 ns.length y2) ∧ X.cell? ⟨w1.heap.size, 1, none⟩ = some (.int .i64 (l : Nat)) ∧ X.cell? ⟨w1.heap.size, 2, none⟩ = some (.slice x1 N0 x2) ∧ X.cell? ⟨w.heap.size, 0, none⟩ = some (.int .i64 op) ∧ X.cell? ⟨w.heap.size, 1, none⟩ = some (.int .i64 (l : Nat)) ∧ X.cell? ⟨w.heap.size, 2, none⟩ = some (.int .i64 other) ∧ X.cell? ⟨w.heap.size, 3, none⟩ = some (.int .i64 (ie : Nat)) ∧ X.cell? ⟨w.heap.size, 4, none⟩ = some (.int .i64 (im : Nat)) ∧ X.cell? ⟨w.heap.size, 5, none⟩ = some (.int .i64 vk) ∧ X.cell? ⟨w.heap.size, 6, none⟩ = some (.int .i64 vn) ∧ X.cell? ⟨w.heap.size, 7, none⟩ = some (.string vt)) [5, 13, 22, 26] [] run_mixed ?_
          simp only [List.size_toArray, List.length_cons, List.length_nil]
          have H0 : Hid (Below w4.heap.size w4 w4.drew) := (Below.refl _ w4).drew
          generalize w4.drew = wk at *
          have HSz16 := HSW.out _ H0.out
          refine wpT_takeG (i := 0) (v := ?vz160) rfl (by kernel_rfl) (fun _ _ _ h => h) rfl ?yz160 ?rz160
          case yz160 => ((intro wz; go_simp); try with_reducible rfl)
          try simp only [Act.put, List.setIfInBounds_toArray, List.set_cons_zero, List.set_cons_succ]
          refine wpT_takeG (i := 1) (v := ?vz161) rfl (by kernel_rfl) (fun _ _ _ h => h) rfl ?yz161 ?rz161
          case yz161 => ((intro wz; go_simp); try with_reducible rfl)
          try simp only [Act.put, List.setIfInBounds_toArray, List.set_cons_zero, List.set_cons_succ]
          refine wpT_takeG (i := 2) (v := ?vz162) rfl (by kernel_rfl) (fun _ _ _ h => h) rfl ?yz162 ?rz162
          case yz162 => ((intro wz; go_simp); try with_reducible rfl)
          try simp only [Act.put, List.setIfInBounds_toArray, List.set_cons_zero, List.set_cons_succ]
          refine wpT_takeG (i := 3) (v := ?vz163) rfl (by kernel_rfl) (fun _ _ _ h => h) rfl ?yz163 ?rz163
          case yz163 => ((intro wz; go_simp); try with_reducible rfl)
          try simp only [Act.put, List.setIfInBounds_toArray, List.set_cons_zero, List.set_cons_succ]
          refine wpT_loadG (i := 4) (v := ?vz164) rfl (by kernel_rfl) (fun _ _ _ h => h) rfl ?yz164 HSz16 ?rz164
          case yz164 => ((intro wz hSw; (try dsimp only at hSw); go_split_ands; go_simp); try with_reducible rfl)
          try simp only [Act.put, List.setIfInBounds_toArray, List.set_cons_zero, List.set_cons_succ]
          clear HSz16
          refine wpT_runG (i := 5) (by kernel_rfl) rfl rfl ?_
          go_simp
          refine (foreign1_c (heap_later BX4.out H0.out) (S4.out.later H0.out) SC.out.ok XM.out (N4.out.later H0.out) (by rw [NLE]; omega) (by omega)).mono ?_
          rintro r wz17 ⟨kz17, rfl, hkz17, hbz17⟩
          have Hz17 := Lib.hid (H0.out.trans (hbz17.mono H0.out.size))
          refine ⟨cond_keep (by decide) (HSW.out _ Hz17.out), ?_⟩
          have hiffz17 := name_iff2 SC.out hkz17
          by_cases hinz17 : xm ∈ (runFrom Md.init ns).seq l
          · rw [decide_eq_true (hiffz17.2 hinz17)]
            simp only [Bool.not_true]
            have INz17 := Lib.hid hinz17
            clear hiffz17 hinz17 hbz17 hkz17
            have HSz18 := HSW.out _ Hz17.out
            refine wpT_takeG (i := 6) (v := ?vz186) rfl (by kernel_rfl) (fun _ _ _ h => h) rfl ?yz186 ?rz186
            case yz186 => ((intro wz; go_simp); try with_reducible rfl)
            try simp only [Act.put, List.setIfInBounds_toArray, List.set_cons_zero, List.set_cons_succ]
            refine wpT_takeG (i := 7) (v := ?vz187) rfl (by kernel_rfl) (fun _ _ _ h => h) rfl ?yz187 ?rz187
            case yz187 => ((intro wz; go_simp); try with_reducible rfl)
            try simp only [Act.put, List.setIfInBounds_toArray, List.set_cons_zero, List.set_cons_succ]
            refine wpT_takeG (i := 8) (v := ?vz188) rfl (by kernel_rfl) (fun _ _ _ h => h) rfl ?yz188 ?rz188
            case yz188 => ((intro wz; go_simp); try with_reducible rfl)
            try simp only [Act.put, List.setIfInBounds_toArray, List.set_cons_zero, List.set_cons_succ]
            refine wpT_takeG (i := 9) (v := ?vz189) rfl (by kernel_rfl) (fun _ _ _ h => h) rfl ?yz189 ?rz189
            case yz189 => ((intro wz; go_simp); try with_reducible rfl)
            try simp only [Act.put, List.setIfInBounds_toArray, List.set_cons_zero, List.set_cons_succ]
            refine wpT_takeG (i := 10) (v := ?vz1810) rfl (by kernel_rfl) (fun _ _ _ h => h) rfl ?yz1810 ?rz1810
            case yz1810 => ((intro wz; go_simp); try with_reducible rfl)
            try simp only [Act.put, List.setIfInBounds_toArray, List.set_cons_zero, List.set_cons_succ]
            refine wpT_takeG (i := 11) (v := ?vz1811) rfl (by kernel_rfl) (fun _ _ _ h => h) rfl ?yz1811 ?rz1811
            case yz1811 => ((intro wz; go_simp); try with_reducible rfl)
            try simp only [Act.put, List.setIfInBounds_toArray, List.set_cons_zero, List.set_cons_succ]
            refine wpT_loadG (i := 12) (v := ?vz1812) rfl (by kernel_rfl) (fun _ _ _ h => h) rfl ?yz1812 HSz18 ?rz1812
            case yz1812 => ((intro wz hSw; (try dsimp only at hSw); go_split_ands; go_simp); try with_reducible rfl)
            try simp only [Act.put, List.setIfInBounds_toArray, List.set_cons_zero, List.set_cons_succ]
            clear HSz18
            refine wpT_runG (i := 13) (by kernel_rfl) rfl rfl ?_
            go_simp
            refine (foreign1_c (heap_later BX4.out Hz17.out) (S4.out.later Hz17.out) SC.out.ok XE.out (N4.out.later Hz17.out) (by rw [NLE]; omega) (by omega)).mono ?_
            rintro r wz19 ⟨kz19, rfl, hkz19, hbz19⟩
            have Hz19 := Lib.hid (Hz17.out.trans (hbz19.mono Hz17.out.size))
            refine ⟨cond_keep (by decide) (HSW.out _ Hz19.out), ?_⟩
            have hiffz19 := name_iff2 SC.out hkz19
            by_cases hinz19 : xe ∈ (runFrom Md.init ns).seq l
            · rw [decide_eq_true (hiffz19.2 hinz19)]
              simp only [Bool.not_true]
              have INz19 := Lib.hid hinz19
              clear hiffz19 hinz19 hbz19 hkz19
              have HSz20 := HSW.out _ Hz19.out
              refine wpT_takeG (i := 14) (v := ?vz2014) rfl (by kernel_rfl) (fun _ _ _ h => h) rfl ?yz2014 ?rz2014
              case yz2014 => ((intro wz; go_simp); try with_reducible rfl)
              try simp only [Act.put, List.setIfInBounds_toArray, List.set_cons_zero, List.set_cons_succ]
              refine wpT_takeG (i := 15) (v := ?vz2015) rfl (by kernel_rfl) (fun _ _ _ h => h) rfl ?yz2015 ?rz2015
              case yz2015 => ((intro wz; go_simp); try with_reducible rfl)
              try simp only [Act.put, List.setIfInBounds_toArray, List.set_cons_zero, List.set_cons_succ]
              refine wpT_takeG (i := 16) (v := ?vz2016) rfl (by kernel_rfl) (fun _ _ _ h => h) rfl ?yz2016 ?rz2016
              case yz2016 => ((intro wz; go_simp); try with_reducible rfl)
              try simp only [Act.put, List.setIfInBounds_toArray, List.set_cons_zero, List.set_cons_succ]
              refine wpT_takeG (i := 17) (v := ?vz2017) rfl (by kernel_rfl) (fun _ _ _ h => h) rfl ?yz2017 ?rz2017
              case yz2017 => ((intro wz; go_simp); try with_reducible rfl)
              try simp only [Act.put, List.setIfInBounds_toArray, List.set_cons_zero, List.set_cons_succ]
              refine wpT_takeG (i := 18) (v := ?vz2018) rfl (by kernel_rfl) (fun _ _ _ h => h) rfl ?yz2018 ?rz2018
              case yz2018 => ((intro wz; go_simp); try with_reducible rfl)
              try simp only [Act.put, List.setIfInBounds_toArray, List.set_cons_zero, List.set_cons_succ]
              refine wpT_loadG (i := 19) (v := ?vz2019) rfl (by kernel_rfl) (fun _ _ _ h => h) rfl ?yz2019 HSz20 ?rz2019
              case yz2019 => ((intro wz hSw; (try dsimp only at hSw); go_split_ands; go_simp); try with_reducible rfl)
              try simp only [Act.put, List.setIfInBounds_toArray, List.set_cons_zero, List.set_cons_succ]
              refine wpT_takeG (i := 20) (v := ?vz2020) rfl (by kernel_rfl) (fun _ _ _ h => h) rfl ?yz2020 ?rz2020
              case yz2020 => ((intro wz; go_simp); try with_reducible rfl)
              try simp only [Act.put, List.setIfInBounds_toArray, List.set_cons_zero, List.set_cons_succ]
              refine wpT_loadG (i := 21) (v := ?vz2021) rfl (by kernel_rfl) (fun _ _ _ h => h) rfl ?yz2021 HSz20 ?rz2021
              case yz2021 => ((intro wz hSw; (try dsimp only at hSw); go_split_ands; go_simp); try with_reducible rfl)
              try simp only [Act.put, List.setIfInBounds_toArray, List.set_cons_zero, List.set_cons_succ]
              clear HSz20
              have HSz21 := HSW.out _ Hz19.out
              refine wpT_loadG (i := 23) (v := ?vz2123) rfl (by kernel_rfl) (fun _ _ _ h => h) rfl ?yz2123 HSz21 ?rz2123
              case yz2123 => ((intro wz hSw; (try dsimp only at hSw); go_split_ands; go_simp); try with_reducible rfl)
              try simp only [Act.put, List.setIfInBounds_toArray, List.set_cons_zero, List.set_cons_succ]
              refine wpT_takeG (i := 24) (v := ?vz2124) rfl (by kernel_rfl) (fun _ _ _ h => h) rfl ?yz2124 ?rz2124
              case yz2124 => ((intro wz; go_simp); try with_reducible rfl)
              try simp only [Act.put, List.setIfInBounds_toArray, List.set_cons_zero, List.set_cons_succ]
              refine wpT_loadG (i := 25) (v := ?vz2125) rfl (by kernel_rfl) (fun _ _ _ h => h) rfl ?yz2125 HSz21 ?rz2125
              case yz2125 => ((intro wz hSw; (try dsimp only at hSw); go_split_ands; go_simp); try with_reducible rfl)
              try simp only [Act.put, List.setIfInBounds_toArray, List.set_cons_zero, List.set_cons_succ]
              clear HSz21
              refine wpT_runG (i := 22) (by kernel_rfl) rfl rfl ?_
              go_simp
              refine (first_c (l := l) (S4.out.later Hz19.out) SC.out.ok XE.out ⟨_, _, _, rfl⟩ (by omega)).mono ?_
              rintro r wz22 ⟨kz22, rfl, hkz22, hbz22⟩
              have Hz22 := Lib.hid (Hz19.out.trans (hbz22.mono Hz19.out.size))
              refine ⟨cond_keep (by decide) (HSW.out _ Hz22.out), ?_⟩
              have Kz22 := Lib.hid hkz22
              clear hbz22 hkz22
              refine wpT_runG (i := 26) (by kernel_rfl) rfl rfl ?_
              go_simp
              refine (first_c (l := l) (S4.out.later Hz22.out) SC.out.ok XM.out ⟨_, _, _, rfl⟩ (by omega)).mono ?_
              rintro r wz23 ⟨kz23, rfl, hkz23, hbz23⟩
              have Hz23 := Lib.hid (Hz22.out.trans (hbz23.mono Hz22.out.size))
              refine ⟨cond_keep (by decide) (HSW.out _ Hz23.out), ?_⟩
              have Kz23 := Lib.hid hkz23
              clear hbz23 hkz23
              by_cases heq : kz22 = kz23
              · have qe : ((kz22 : Int) == (kz23 : Int)) = true := by simp; omega
                have hxx : xe = xm := fst_inj SC.out.wf Kz22.out (by rw [heq]; exact Kz23.out)
                have XX := Lib.hid hxx
                clear heq hxx
                refine wpT_takeG (i := 27) (v := ?vz2427) rfl (by kernel_rfl) (fun _ _ _ h => h) rfl ?yz2427 ?rz2427
                case yz2427 => ((intro wz; go_simp); try with_reducible rfl)
                try simp only [Act.put, List.setIfInBounds_toArray, List.set_cons_zero, List.set_cons_succ]
                refine wpT_takeG (i := 28) (v := ?vz2428) rfl (by kernel_rfl) (fun _ _ _ h => h) rfl ?yz2428 ?rz2428
                case yz2428 => ((intro wz; go_simp); try with_reducible rfl)
                try simp only [Act.put, List.setIfInBounds_toArray, List.set_cons_zero, List.set_cons_succ]
                refine wpT_takeG (i := 29) (v := ?vz2429) rfl (by kernel_rfl) (fun _ _ _ h => h) rfl ?yz2429 ?rz2429
                case yz2429 => ((intro wz; go_simp); try with_reducible rfl)
                try simp only [Act.put, List.setIfInBounds_toArray, List.set_cons_zero, List.set_cons_succ]
                refine wpT_takeG (i := 30) (v := ?vz2430) rfl (by kernel_rfl) (fun _ _ _ h => h) rfl ?yz2430 ?rz2430
                case yz2430 => ((intro wz; go_simp); try with_reducible rfl)
                try simp only [Act.put, List.setIfInBounds_toArray, List.set_cons_zero, List.set_cons_succ]
                refine wpT_done (by kernel_rfl) ?_ _
                go_wp2
                go_meet
                case rel => exact ⟨_, rfl, (fun _ => .inr (.inr ⟨by show op = 9 ∨ op = 10; omega, xe, by simpa using XE.out, by rw [XX.out]; simpa using XM.out⟩)), Hz23.out⟩
              · have qe : ((kz22 : Int) == (kz23 : Int)) = false := by
                  have : ¬ ((kz22 : Int) = (kz23 : Int)) := by omega
                  simpa using this
                clear heq
                refine wpT_takeG (i := 27) (v := ?vz2527) rfl (by kernel_rfl) (fun _ _ _ h => h) rfl ?yz2527 ?rz2527
                case yz2527 => ((intro wz; go_simp); try with_reducible rfl)
                try simp only [Act.put, List.setIfInBounds_toArray, List.set_cons_zero, List.set_cons_succ]
                refine wpT_takeG (i := 28) (v := ?vz2528) rfl (by kernel_rfl) (fun _ _ _ h => h) rfl ?yz2528 ?rz2528
                case yz2528 => ((intro wz; go_simp); try with_reducible rfl)
                try simp only [Act.put, List.setIfInBounds_toArray, List.set_cons_zero, List.set_cons_succ]
                refine wpT_takeG (i := 29) (v := ?vz2529) rfl (by kernel_rfl) (fun _ _ _ h => h) rfl ?yz2529 ?rz2529
                case yz2529 => ((intro wz; go_simp); try with_reducible rfl)
                try simp only [Act.put, List.setIfInBounds_toArray, List.set_cons_zero, List.set_cons_succ]
                refine wpT_takeG (i := 30) (v := ?vz2530) rfl (by kernel_rfl) (fun _ _ _ h => h) rfl ?yz2530 ?rz2530
                case yz2530 => ((intro wz; go_simp); try with_reducible rfl)
                try simp only [Act.put, List.setIfInBounds_toArray, List.set_cons_zero, List.set_cons_succ]
                refine wpT_done (by kernel_rfl) ?_ _
                go_wp2
                go_meet
                case rel => exact ⟨_, rfl, fun q => absurd q (by decide), Hz23.out⟩
            · rw [decide_eq_false (fun q => hinz19 (hiffz19.1 q))]
              simp only [Bool.not_false]
              have INz19 := Lib.hid hinz19
              clear hiffz19 hinz19 hbz19 hkz19
              refine wpT_takeG (i := 14) (v := ?vz2614) rfl (by kernel_rfl) (fun _ _ _ h => h) rfl ?yz2614 ?rz2614
              case yz2614 => ((intro wz; go_simp); try with_reducible rfl)
              try simp only [Act.put, List.setIfInBounds_toArray, List.set_cons_zero, List.set_cons_succ]
              refine wpT_takeG (i := 15) (v := ?vz2615) rfl (by kernel_rfl) (fun _ _ _ h => h) rfl ?yz2615 ?rz2615
              case yz2615 => ((intro wz; go_simp); try with_reducible rfl)
              try simp only [Act.put, List.setIfInBounds_toArray, List.set_cons_zero, List.set_cons_succ]
              refine wpT_takeG (i := 16) (v := ?vz2616) rfl (by kernel_rfl) (fun _ _ _ h => h) rfl ?yz2616 ?rz2616
              case yz2616 => ((intro wz; go_simp); try with_reducible rfl)
              try simp only [Act.put, List.setIfInBounds_toArray, List.set_cons_zero, List.set_cons_succ]
              refine wpT_skip2 (i := 17) rfl (by kernel_rfl) (fun _ _ _ h => h) rfl ?_
              try simp only [Act.put, List.setIfInBounds_toArray, List.set_cons_zero, List.set_cons_succ]
              refine wpT_skip2 (i := 18) rfl (by kernel_rfl) (fun _ _ _ h => h) rfl ?_
              try simp only [Act.put, List.setIfInBounds_toArray, List.set_cons_zero, List.set_cons_succ]
              refine wpT_skip2 (i := 19) rfl (by kernel_rfl) (fun _ _ _ h => h) rfl ?_
              try simp only [Act.put, List.setIfInBounds_toArray, List.set_cons_zero, List.set_cons_succ]
              refine wpT_skip2 (i := 20) rfl (by kernel_rfl) (fun _ _ _ h => h) rfl ?_
              try simp only [Act.put, List.setIfInBounds_toArray, List.set_cons_zero, List.set_cons_succ]
              refine wpT_skip2 (i := 21) rfl (by kernel_rfl) (fun _ _ _ h => h) rfl ?_
              try simp only [Act.put, List.setIfInBounds_toArray, List.set_cons_zero, List.set_cons_succ]
              refine wpT_skip2 (i := 23) rfl (by kernel_rfl) (fun _ _ _ h => h) rfl ?_
              try simp only [Act.put, List.setIfInBounds_toArray, List.set_cons_zero, List.set_cons_succ]
              refine wpT_skip2 (i := 24) rfl (by kernel_rfl) (fun _ _ _ h => h) rfl ?_
              try simp only [Act.put, List.setIfInBounds_toArray, List.set_cons_zero, List.set_cons_succ]
              refine wpT_skip2 (i := 25) rfl (by kernel_rfl) (fun _ _ _ h => h) rfl ?_
              try simp only [Act.put, List.setIfInBounds_toArray, List.set_cons_zero, List.set_cons_succ]
              refine wpT_pass (i := 22) (by kernel_rfl) rfl rfl (HSW.out _ Hz19.out) (by decide) ?_
              try simp only [Act.put, List.setIfInBounds_toArray, List.set_cons_zero, List.set_cons_succ]
              refine wpT_pass (i := 26) (by kernel_rfl) rfl rfl (HSW.out _ Hz19.out) (by decide) ?_
              try simp only [Act.put, List.setIfInBounds_toArray, List.set_cons_zero, List.set_cons_succ]
              refine wpT_skip2 (i := 27) rfl (by kernel_rfl) (fun _ _ _ h => h) rfl ?_
              try simp only [Act.put, List.setIfInBounds_toArray, List.set_cons_zero, List.set_cons_succ]
              refine wpT_skip2 (i := 28) rfl (by kernel_rfl) (fun _ _ _ h => h) rfl ?_
              try simp only [Act.put, List.setIfInBounds_toArray, List.set_cons_zero, List.set_cons_succ]
              refine wpT_takeG (i := 29) (v := ?vz2729) rfl (by kernel_rfl) (fun _ _ _ h => h) rfl ?yz2729 ?rz2729
              case yz2729 => ((intro wz; go_simp); try with_reducible rfl)
              try simp only [Act.put, List.setIfInBounds_toArray, List.set_cons_zero, List.set_cons_succ]
              refine wpT_takeG (i := 30) (v := ?vz2730) rfl (by kernel_rfl) (fun _ _ _ h => h) rfl ?yz2730 ?rz2730
              case yz2730 => ((intro wz; go_simp); try with_reducible rfl)
              try simp only [Act.put, List.setIfInBounds_toArray, List.set_cons_zero, List.set_cons_succ]
              refine wpT_done (by kernel_rfl) ?_ _
              go_wp2
              go_meet
              case rel => exact ⟨_, rfl, (fun _ => .inr (.inl ⟨by show 7 ≤ op; omega, xe, by simpa using XE.out, INz19.out⟩)), Hz19.out⟩
          · rw [decide_eq_false (fun q => hinz17 (hiffz17.1 q))]
            simp only [Bool.not_false]
            have INz17 := Lib.hid hinz17
            clear hiffz17 hinz17 hbz17 hkz17
            refine wpT_takeG (i := 6) (v := ?vz286) rfl (by kernel_rfl) (fun _ _ _ h => h) rfl ?yz286 ?rz286
            case yz286 => ((intro wz; go_simp); try with_reducible rfl)
            try simp only [Act.put, List.setIfInBounds_toArray, List.set_cons_zero, List.set_cons_succ]
            refine wpT_takeG (i := 7) (v := ?vz287) rfl (by kernel_rfl) (fun _ _ _ h => h) rfl ?yz287 ?rz287
            case yz287 => ((intro wz; go_simp); try with_reducible rfl)
            try simp only [Act.put, List.setIfInBounds_toArray, List.set_cons_zero, List.set_cons_succ]
            refine wpT_skip2 (i := 8) rfl (by kernel_rfl) (fun _ _ _ h => h) rfl ?_
            try simp only [Act.put, List.setIfInBounds_toArray, List.set_cons_zero, List.set_cons_succ]
            refine wpT_skip2 (i := 9) rfl (by kernel_rfl) (fun _ _ _ h => h) rfl ?_
            try simp only [Act.put, List.setIfInBounds_toArray, List.set_cons_zero, List.set_cons_succ]
            refine wpT_skip2 (i := 10) rfl (by kernel_rfl) (fun _ _ _ h => h) rfl ?_
            try simp only [Act.put, List.setIfInBounds_toArray, List.set_cons_zero, List.set_cons_succ]
            refine wpT_skip2 (i := 11) rfl (by kernel_rfl) (fun _ _ _ h => h) rfl ?_
            try simp only [Act.put, List.setIfInBounds_toArray, List.set_cons_zero, List.set_cons_succ]
            refine wpT_skip2 (i := 12) rfl (by kernel_rfl) (fun _ _ _ h => h) rfl ?_
            try simp only [Act.put, List.setIfInBounds_toArray, List.set_cons_zero, List.set_cons_succ]
            refine wpT_pass (i := 13) (by kernel_rfl) rfl rfl (HSW.out _ Hz17.out) (by decide) ?_
            try simp only [Act.put, List.setIfInBounds_toArray, List.set_cons_zero, List.set_cons_succ]
            refine wpT_skip2 (i := 14) rfl (by kernel_rfl) (fun _ _ _ h => h) rfl ?_
            try simp only [Act.put, List.setIfInBounds_toArray, List.set_cons_zero, List.set_cons_succ]
            refine wpT_takeG (i := 15) (v := ?vz2915) rfl (by kernel_rfl) (fun _ _ _ h => h) rfl ?yz2915 ?rz2915
            case yz2915 => ((intro wz; go_simp); try with_reducible rfl)
            try simp only [Act.put, List.setIfInBounds_toArray, List.set_cons_zero, List.set_cons_succ]
            refine wpT_takeG (i := 16) (v := ?vz2916) rfl (by kernel_rfl) (fun _ _ _ h => h) rfl ?yz2916 ?rz2916
            case yz2916 => ((intro wz; go_simp); try with_reducible rfl)
            try simp only [Act.put, List.setIfInBounds_toArray, List.set_cons_zero, List.set_cons_succ]
            refine wpT_skip2 (i := 17) rfl (by kernel_rfl) (fun _ _ _ h => h) rfl ?_
            try simp only [Act.put, List.setIfInBounds_toArray, List.set_cons_zero, List.set_cons_succ]
            refine wpT_skip2 (i := 18) rfl (by kernel_rfl) (fun _ _ _ h => h) rfl ?_
            try simp only [Act.put, List.setIfInBounds_toArray, List.set_cons_zero, List.set_cons_succ]
            refine wpT_skip2 (i := 19) rfl (by kernel_rfl) (fun _ _ _ h => h) rfl ?_
            try simp only [Act.put, List.setIfInBounds_toArray, List.set_cons_zero, List.set_cons_succ]
            refine wpT_skip2 (i := 20) rfl (by kernel_rfl) (fun _ _ _ h => h) rfl ?_
            try simp only [Act.put, List.setIfInBounds_toArray, List.set_cons_zero, List.set_cons_succ]
            refine wpT_skip2 (i := 21) rfl (by kernel_rfl) (fun _ _ _ h => h) rfl ?_
            try simp only [Act.put, List.setIfInBounds_toArray, List.set_cons_zero, List.set_cons_succ]
            refine wpT_skip2 (i := 23) rfl (by kernel_rfl) (fun _ _ _ h => h) rfl ?_
            try simp only [Act.put, List.setIfInBounds_toArray, List.set_cons_zero, List.set_cons_succ]
            refine wpT_skip2 (i := 24) rfl (by kernel_rfl) (fun _ _ _ h => h) rfl ?_
            try simp only [Act.put, List.setIfInBounds_toArray, List.set_cons_zero, List.set_cons_succ]
            refine wpT_skip2 (i := 25) rfl (by kernel_rfl) (fun _ _ _ h => h) rfl ?_
            try simp only [Act.put, List.setIfInBounds_toArray, List.set_cons_zero, List.set_cons_succ]
            refine wpT_pass (i := 22) (by kernel_rfl) rfl rfl (HSW.out _ Hz17.out) (by decide) ?_
            try simp only [Act.put, List.setIfInBounds_toArray, List.set_cons_zero, List.set_cons_succ]
            refine wpT_pass (i := 26) (by kernel_rfl) rfl rfl (HSW.out _ Hz17.out) (by decide) ?_
            try simp only [Act.put, List.setIfInBounds_toArray, List.set_cons_zero, List.set_cons_succ]
            refine wpT_skip2 (i := 27) rfl (by kernel_rfl) (fun _ _ _ h => h) rfl ?_
            try simp only [Act.put, List.setIfInBounds_toArray, List.set_cons_zero, List.set_cons_succ]
            refine wpT_skip2 (i := 28) rfl (by kernel_rfl) (fun _ _ _ h => h) rfl ?_
            try simp only [Act.put, List.setIfInBounds_toArray, List.set_cons_zero, List.set_cons_succ]
            refine wpT_takeG (i := 29) (v := ?vz3029) rfl (by kernel_rfl) (fun _ _ _ h => h) rfl ?yz3029 ?rz3029
            case yz3029 => ((intro wz; go_simp); try with_reducible rfl)
            try simp only [Act.put, List.setIfInBounds_toArray, List.set_cons_zero, List.set_cons_succ]
            refine wpT_takeG (i := 30) (v := ?vz3030) rfl (by kernel_rfl) (fun _ _ _ h => h) rfl ?yz3030 ?rz3030
            case yz3030 => ((intro wz; go_simp); try with_reducible rfl)
            try simp only [Act.put, List.setIfInBounds_toArray, List.set_cons_zero, List.set_cons_succ]
            refine wpT_done (by kernel_rfl) ?_ _
            go_wp2
            go_meet
            case rel => exact ⟨_, rfl, (fun _ => .inl ⟨by show op = 5 ∨ op = 6 ∨ op = 9 ∨ op = 10; omega, xm, by simpa using XM.out, INz17.out⟩), Hz17.out⟩
      case rest =>
      obtain ⟨b, rfl, hst, hcb⟩ := hcut
      have B5 := Lib.hid (B4.out.trans (hcb.mono B4.out.size))
      cases b with
      | true =>
        clear hst hcb
        go_wp2
        go_ret
        exact ⟨rfl, B5.out⟩
      | false =>
        have LOOK := Lib.hid (strange_look SC.out (c := (⟨op, (l : Nat), other, elem, mark, ⟨vk, vn, vt⟩⟩ : Cl)) (by show 5 ≤ op; omega) (by show op ≤ 11; omega) (hst rfl))
        have S5 := Lib.hid (S4.out.later hcb)
        have BX5 := Lib.hid (heap_later BX4.out hcb)
        have CX5 := Lib.hid (heap_later CX4.out hcb)
        clear hst hcb
        go_wp2_with fail
        have HSW : Hid (∀ W, Below wc.heap.size wc W → (fun X : World => X.cell? ⟨w1.heap.size, 0, none⟩ = some (.slice y1 ns.length y2) ∧ X.cell? ⟨w1.heap.size, 1, none⟩ = some (.int .i64 (l : Nat)) ∧ X.cell? ⟨w1.heap.size, 2, none⟩ = some (.slice x1 N0 x2) ∧ X.cell? ⟨w.heap.size, 0, none⟩ = some (.int .i64 op) ∧ X.cell? ⟨w.heap.size, 1, none⟩ = some (.int .i64 (l : Nat)) ∧ X.cell? ⟨w.heap.size, 2, none⟩ = some (.int .i64 other) ∧ X.cell? ⟨w.heap.size, 3, none⟩ = some (.int .i64 elem) ∧ X.cell? ⟨w.heap.size, 4, none⟩ = some (.int .i64 mark) ∧ X.cell? ⟨w.heap.size, 5, none⟩ = some (.int .i64 vk) ∧ X.cell? ⟨w.heap.size, 6, none⟩ = some (.int .i64 vn) ∧ X.cell? ⟨w.heap.size, 7, none⟩ = some (.string vt)) W) := fun W hb => ⟨cell_of_heap (o := 0) (heap_later BX5.out hb) rfl, cell_of_heap (o := 1) (heap_later BX5.out hb) rfl, cell_of_heap (o := 2) (heap_later BX5.out hb) rfl, cell_of_heap (o := 0) (heap_later CX5.out hb) rfl, cell_of_heap (o := 1) (heap_later CX5.out hb) rfl, cell_of_heap (o := 2) (heap_later CX5.out hb) rfl, cell_of_heap (o := 3) (heap_later CX5.out hb) rfl, cell_of_heap (o := 4) (heap_later CX5.out hb) rfl, cell_of_heap (o := 5) (heap_later CX5.out hb) rfl, cell_of_heap (o := 6) (heap_later CX5.out hb) rfl, cell_of_heap (o := 7) (heap_later CX5.out hb) rfl⟩
        refine wp_region_T (fun X : World => X.cell? ⟨w1.heap.size, 0, none⟩ = some (.slice y1 ns.length y2) ∧ X.cell? ⟨w1.heap.size, 1, none⟩ = some (.int .i64 (l : Nat)) ∧ X.cell? ⟨w1.heap.size, 2, none⟩ = some (.slice x1 N0 x2) ∧ X.cell? ⟨w.heap.size, 0, none⟩ = some (.int .i64 op) ∧ X.cell? ⟨w.heap.size, 1, none⟩ = some (.int .i64 (l : Nat)) ∧ X.cell? ⟨w.heap.size, 2, none⟩ = some (.int .i64 other) ∧ X.cell? ⟨w.heap.size, 3, none⟩ = some (.int .i64 elem) ∧ X.cell? ⟨w.heap.size, 4, none⟩ = some (.int .i64 mark) ∧ X.cell? ⟨w.heap.size, 5, none⟩ = some (.int .i64 vk) ∧ X.cell? ⟨w.heap.size, 6, none⟩ = some (.int .i64 vn) ∧ X.cell? ⟨w.heap.size, 7, none⟩ = some (.string vt)) [4, 5, 8] [] run_mixed ?_
        simp only [List.size_toArray, List.length_cons, List.length_nil]
        have hbd : Below wc.heap.size wc wc.drew := (Below.refl _ wc).drew
        have H0 := Lib.hid hbd
        have SK := Lib.hid (S5.out.later hbd)
        generalize wc.drew = wk at *
        have HS := HSW.out _ hbd
        clear hbd
        refine wpT_takeG (i := 0) (v := ?vy0) rfl (by kernel_rfl) (fun _ _ _ h => h) rfl ?yy0 ?ry0
        case yy0 => ((intro wz; go_simp); try with_reducible rfl)
        try simp only [Act.put, List.setIfInBounds_toArray, List.set_cons_zero, List.set_cons_succ]
        refine wpT_loadG (i := 1) (v := ?vy1) rfl (by kernel_rfl) (fun _ _ _ h => h) rfl ?yy1 HS ?ry1
        case yy1 => ((intro wz hSw; (try dsimp only at hSw); go_split_ands; go_simp); try with_reducible rfl)
        try simp only [Act.put, List.setIfInBounds_toArray, List.set_cons_zero, List.set_cons_succ]
        refine wpT_loadG (i := 2) (v := ?vy2) rfl (by kernel_rfl) (fun _ _ _ h => h) rfl ?yy2 HS ?ry2
        case yy2 => ((intro wz hSw; (try dsimp only at hSw); go_split_ands; go_simp); try with_reducible rfl)
        try simp only [Act.put, List.setIfInBounds_toArray, List.set_cons_zero, List.set_cons_succ]
        refine wpT_loadG (i := 3) (v := ?vy3) rfl (by kernel_rfl) (fun _ _ _ h => h) rfl ?yy3 HS ?ry3
        case yy3 => ((intro wz hSw; (try dsimp only at hSw); go_split_ands; go_simp); try with_reducible rfl)
        try simp only [Act.put, List.setIfInBounds_toArray, List.set_cons_zero, List.set_cons_succ]
        refine wpT_takeG (i := 6) (v := ?vy6) rfl (by kernel_rfl) (fun _ _ _ h => h) rfl ?yy6 ?ry6
        case yy6 => ((intro wz; go_simp); try with_reducible rfl)
        try simp only [Act.put, List.setIfInBounds_toArray, List.set_cons_zero, List.set_cons_succ]
        refine wpT_loadG (i := 7) (v := ?vy7) rfl (by kernel_rfl) (fun _ _ _ h => h) rfl ?yy7 HS ?ry7
        case yy7 => ((intro wz hSw; (try dsimp only at hSw); go_split_ands; go_simp); try with_reducible rfl)
        try simp only [Act.put, List.setIfInBounds_toArray, List.set_cons_zero, List.set_cons_succ]
        refine wpT_runG (i := 4) (by kernel_rfl) rfl rfl ?_
        go_simp
        have hb1 := below1 wk (.cells #[.int .i64 op, .int .i64 (l : Nat), .int .i64 other, .int .i64 elem, .int .i64 mark, .int .i64 vk, .int .i64 vn, .string vt] 29)
        have SI : Scr (wk.alloc (.cells #[.int .i64 op, .int .i64 (l : Nat), .int .i64 other, .int .i64 elem, .int .i64 mark, .int .i64 vk, .int .i64 vn, .string vt] 29)) (.slice (some ⟨wk.heap.size, 0, none⟩) 1 1) [(⟨op, (l : Nat), other, elem, mark, ⟨vk, vn, vt⟩⟩ : Cl)] := scr_lit wk [(⟨op, (l : Nat), other, elem, mark, ⟨vk, vn, vt⟩⟩ : Cl)] 29 wk.heap.size 1 rfl rfl (by simpa using CO.out)
        have H1 := Lib.hid (H0.out.trans (hb1.mono H0.out.size))
        have SK1 := Lib.hid (SK.out.later hb1)
        generalize hwa : wk.alloc (.cells #[.int .i64 op, .int .i64 (l : Nat), .int .i64 other, .int .i64 elem, .int .i64 mark, .int .i64 vk, .int .i64 vn, .string vt] 29) = wa at *
        refine ⟨cond_keep (by decide) (HSW.out _ H1.out), ?_⟩
        refine wpT_runG (i := 5) (by kernel_rfl) rfl rfl ?_
        go_simp
        refine (with_c (l := l) (ns := ns) (cl := [(⟨op, (l : Nat), other, elem, mark, ⟨vk, vn, vt⟩⟩ : Cl)]) SK1.out SI ⟨_, _, _, rfl⟩ (by simp; omega)).mono ?_
        rintro r wb ⟨vb, rfl, sb, hbb⟩
        have H2 := Lib.hid (H1.out.trans (hbb.mono H1.out.size))
        have SK2 := Lib.hid (SK1.out.later hbb)
        refine ⟨cond_keep (by decide) (HSW.out _ H2.out), ?_⟩
        refine wpT_runG (i := 8) (by kernel_rfl) rfl rfl ?_
        go_simp
        refine (alike_c SK2.out sb SK2.out OK.out SC.out.ok (fun k hk => by rw [runFrom_append]; exact run_isL_mono _ (mem_lists k hk)) (fun k hk => mem_lists k hk) (fun k _ => LOOK.out k) (by decide) (by omega) (by simp; omega) (by omega)).mono ?_
        rintro r wf ⟨rfl, hbf⟩
        have H3 := Lib.hid (H2.out.trans (hbf.mono H2.out.size))
        refine ⟨cond_keep (by decide) (HSW.out _ H3.out), ?_⟩
        have BF := Lib.hid (B5.out.trans (H3.out.mono B5.out.size))
        clear hb1 SI hwa sb hbb hbf HS
        refine wpT_takeG (i := 9) (v := ?vyy9) rfl (by kernel_rfl) (fun _ _ _ h => h) rfl ?yyy9 ?ryy9
        case yyy9 => ((intro wz; go_simp); try with_reducible rfl)
        try simp only [Act.put, List.setIfInBounds_toArray, List.set_cons_zero, List.set_cons_succ]
        refine wpT_done (by kernel_rfl) ?_ _
        go_wp2
        go_ret
        exact ⟨rfl, BF.out⟩
  · simp only [scene0]
    have hB := (B1.out.setCell (p := ⟨w.heap.size, 1, none⟩) (Nat.le_refl _) (.int .i64 0))
    go_wp2
    go_ret
    refine ⟨rfl, ?_⟩
    exact (B1.out.setCell (Nat.le_refl _) _).trans ((below1 _ _).mono (by simp [World.setCell]; exact B1.out.size))
end Bead
end Go.Proofs.Ytdmichkekipdpaa
