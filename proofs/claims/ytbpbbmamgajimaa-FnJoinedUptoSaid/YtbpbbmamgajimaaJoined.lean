/- FnJoined returns true. -/
import Derived.Test.YtbpbbmamgajimaaScene2
import Derived.Test.YtbpbbmamgajimaaMoves
import Derived.Test.YtbpbbmamgajimaaConcatValue
import Derived.Test.YtbpbbmamgajimaaLast4
import Derived.Test.YtbpbbmamgajimaaLooks
set_option linter.all false
namespace Go.Proofs.Ytbpbbmamgajimaa
open Go.RowKit
namespace Bead
set_option maxRecDepth 100000

def joinC (ns : List Cl) (os : List Nat) : List Cl := (ns ++ [cZero]) ++ os.map fun o => onL ns.length (cLs 12 o)
def joinV (M : Md) (os : List Nat) : List Vl := os.flatMap fun o => (M.seq o).map M.val
/-- What a round knows. -/
structure JAt (w wr : World) (ns : List Cl) (M : Md) (Ls : List Nat) (j : Nat) (vl vw : Value) (os : List Nat) : Prop where
  len : os.length = j
  mem : ∀ o ∈ os, o ∈ Ls
  lon : ∃ B, wr.ownsRow B 29 8 vl (ns.length + 1 + j) ((joinC ns os).flatMap Cl.cells)
  want : wr.ownsRow w.heap.size 27 3 vw (joinV M os).length ((joinV M os).flatMap Vl.cells)
  small : (joinV M os).length ≤ 500 * j
  below : Below w.heap.size w wr
theorem JAt.later {w wr w5 : World} {ns : List Cl} {M : Md} {Ls : List Nat} {j : Nat} {vl vw : Value} {os : List Nat} (h : JAt w wr ns M Ls j vl vw os) (hb : Below wr.heap.size wr w5) : JAt w w5 ns M Ls j vl vw os :=
  ⟨h.len, h.mem, by obtain ⟨B, q⟩ := h.lon; exact ⟨B, own_below q hb⟩, own_below h.want hb, h.small, h.below.trans (hb.mono h.below.size)⟩
theorem joinC_len (ns : List Cl) (os : List Nat) : (joinC ns os).length = ns.length + 1 + os.length := by simp [joinC]; omega
theorem joinC_snoc (ns : List Cl) (os : List Nat) (o : Nat) : joinC ns (os ++ [o]) = joinC ns os ++ [onL ns.length (cLs 12 o)] := by simp [joinC]
theorem joinV_snoc (M : Md) (os : List Nat) (o : Nat) : joinV M (os ++ [o]) = joinV M os ++ (M.seq o).map M.val := by simp [joinV]
theorem JAt.scr {w wr : World} {ns : List Cl} {M : Md} {Ls : List Nat} {j : Nat} {vl vw : Value} {os : List Nat} (h : JAt w wr ns M Ls j vl vw os) (hok : ∀ c ∈ ns, c.v.ok) : Scr wr vl (joinC ns os) := by
  obtain ⟨B, q⟩ := h.lon
  refine Scr.of_own (B := B) (by rw [joinC_len, h.len]; exact q) (fun c hc => ?_)
  simp only [joinC, List.mem_append, List.mem_singleton, List.mem_map] at hc
  rcases hc with (hc | rfl) | ⟨o, _, rfl⟩
  · exact hok c hc
  · exact vl_zero_ok
  · exact vl_zero_ok
/-- The values are written down .. -/
theorem JAt.more {w wr w6 : World} {ns : List Cl} {M : Md} {Ls : List Nat} {j o : Nat} {vl vw vw' : Value} {os : List Nat} (h : JAt w wr ns M Ls j vl vw os)
    (hown : w6.ownsRow w.heap.size 27 3 vw' ((joinV M os).length + ((M.seq o).map M.val).length) ((joinV M os).flatMap Vl.cells ++ ((M.seq o).map M.val).flatMap Vl.cells)) (hg : wr.grownBy w6 vw.ownBlock) :
    (∃ B, w6.ownsRow B 29 8 vl (ns.length + 1 + j) ((joinC ns os).flatMap Cl.cells)) ∧ w6.ownsRow w.heap.size 27 3 vw' (joinV M (os ++ [o])).length ((joinV M (os ++ [o])).flatMap Vl.cells) ∧ Below w.heap.size w w6 := by
  obtain ⟨B, q⟩ := h.lon
  refine ⟨⟨B, own_grown q h.want (by decide) hg⟩, ?_, below_grown h.below h.want (Nat.le_refl _) hg⟩
  rw [joinV_snoc, List.length_append, List.flatMap_append]; exact hown
/-- .. then the list is pushed. -/
theorem JAt.next {w wr w6 w7 : World} {ns : List Cl} {M : Md} {Ls : List Nat} {j o : Nat} {vl vw vw' vl' : Value} {os : List Nat} {ob : Obj} (h : JAt w wr ns M Ls j vl vw os) (ho : o ∈ Ls) (hso : (M.seq o).length ≤ 500)
    (h2 : w6.ownsRow w.heap.size 27 3 vw' (joinV M (os ++ [o])).length ((joinV M (os ++ [o])).flatMap Vl.cells)) (h3 : Below w.heap.size w w6)
    (hr : w7.ownsRow (w6.alloc ob).heap.size 29 8 vl' (joinC ns os ++ [onL ns.length (cLs 12 o)]).length ((joinC ns os ++ [onL ns.length (cLs 12 o)]).flatMap Cl.cells)) (hb : Below (w6.alloc ob).heap.size (w6.alloc ob) w7) : JAt w w7 ns M Ls (j + 1) vl' vw' (os ++ [o]) := by
  have hb7 : Below w6.heap.size w6 w7 := (below1 w6 ob).trans (hb.mono (by simp))
  refine ⟨by rw [List.length_append, h.len]; rfl, fun x hx => ?_, ⟨(w6.alloc ob).heap.size, ?_⟩, own_below h2 hb7, ?_, h3.trans (hb7.mono h3.size)⟩
  · rcases List.mem_append.1 hx with q | q
    · exact h.mem x q
    · simp at q; subst q; exact ho
  · rw [joinC_snoc]
    have e : (joinC ns os ++ [onL ns.length (cLs 12 o)]).length = ns.length + 1 + (j + 1) := by rw [List.length_append, joinC_len, h.len]; rfl
    rw [← e]; exact hr
  · rw [joinV_snoc, List.length_append, List.length_map]
    have := h.small
    omega
theorem vals_one {L : List Vl} : ∀ u ∈ L.flatMap Vl.cells, u.oneCell' = true := fun u hu => by
  simp only [List.mem_flatMap] at hu
  obtain ⟨x, _, hx⟩ := hu
  simp [Vl.cells] at hx
  rcases hx with rfl | rfl | rfl <;> rfl

set_option maxHeartbeats 16000000 in
theorem joined_c {w : World} {v vo : Value} {cs : List Cl} {ws : List Int} (s : Scr w v cs) (so : Sl w vo ws.length (ws.flatMap fun x => [.int .i64 x])) (hn : cs.length ≤ 1048576) :
    Calls Try.prog 13 #[v, vo] w fun r w' => r = .returned (.bool true) ∧ Below w.heap.size w w' := by
  have LS := Lib.hid (lists_c s (by omega))
  have S := Lib.hid s
  have SO := Lib.hid so
  have hll : (listsOf cs).length ≤ cs.length := listsAt_length cs 0
  obtain ⟨z1, z2, rfl⟩ : ∃ a c, vo = .slice a ws.length c := by obtain ⟨a, c, q, _⟩ := so; exact ⟨a, c, q⟩
  clear s so
  go_enter Try.func13, Try.ntmps13
  go_wp2_with fail
  refine LS.out.mono ?_
  rintro r w1 ⟨vl, rfl, rl, hb1⟩
  have B1 := Lib.hid hb1
  have RL := Lib.hid rl
  have PM := Lib.hid (permittedL_c (S.out.sl.later hb1) (by omega))
  obtain ⟨l1, l2, rfl⟩ := own_len rl
  clear hb1 rl LS
  go_wp2_with fail
  refine PM.out.mono ?_
  rintro r w2 ⟨rfl, hb2⟩
  have B2 := Lib.hid (B1.out.trans (hb2.mono B1.out.size))
  have NT := Lib.hid (Nats.of_own (own_below RL.out hb2))
  clear hb2 PM RL B1
  cases hok : okFrom 500 Md.init cs with
  | false =>
    clear hok
    go_wp2
    go_ret
    exact ⟨rfl, B2.out⟩
  | true =>
    by_cases hL0 : (listsOf cs).length = 0
    · clear hok
      go_wp2
      go_ret
      exact ⟨rfl, B2.out⟩
    have qL0 : (((listsOf cs).length : Int) == 0) = false := by
      have : ¬ (((listsOf cs).length : Int) = 0) := by omega
      simpa using this
    by_cases h50 : 50 < ws.length
    · clear hok hL0
      go_wp2
      go_ret
      exact ⟨rfl, B2.out⟩
    have q50 : decide (50 < (ws.length : Int)) = false := by simp; omega
    have NM := Lib.hid (named_c (S.out.later B2.out) hok hn)
    obtain ⟨n1, n2, n3, n4⟩ := named_all hok hn
    have N1 := Lib.hid n1; have N2 := Lib.hid n2; have N3 := Lib.hid n3
    have NLS := Lib.hid (named_lists cs)
    have HL0 := Lib.hid hL0
    have q50' : ¬ 50 < ws.length := h50
    clear hok n1 n2 n3 hL0
    go_wp2_with fail
    refine NM.out.mono ?_
    rintro r w3 ⟨vs, rfl, s3, hb3⟩
    have B3 := Lib.hid (B2.out.trans (hb3.mono B2.out.size))
    have NT3 := Lib.hid (NT.out.later hb3)
    have SO3 := Lib.hid (SO.out.later B3.out)
    generalize hns : namedC cs = ns at *
    obtain ⟨y1, y2, rfl⟩ := s3.form
    have S3 := Lib.hid s3
    clear hns s3 hb3 NM NT SO
    go_wp2_with fail
    refine (then_c (a := ns) (b := [cZero]) (S3.out.later (below1 w3 _)).sl (scr_lit w3 [cZero] 29 w3.heap.size 1 rfl rfl (by simp [cZero]; exact vl_zero_ok)).sl S3.out.fair (fun n c q => by injection q with q1; cases q1) (by simp; omega)).mono ?_
    rintro r w4 ⟨vt, rfl, r4, hb4⟩
    have hb34 := (below1 w3 _).trans (hb4.mono (by simp))
    have B4 := Lib.hid (B3.out.trans (hb34.mono B3.out.size))
    have NT4 := Lib.hid (NT3.out.later hb34)
    have SO4 := Lib.hid (SO3.out.later hb34)
    have S4 := Lib.hid (S3.out.later hb34)
    have J0 : Hid (JAt w4 w4 ns (runFrom Md.init ns) (listsOf cs) 0 vt (.slice none 0 0) []) := ⟨rfl, by simp, ⟨_, by have := r4; rw [List.length_append] at this; simpa [joinC] using this⟩, World.ownsRow_nil _ _ _ _, Nat.le_refl _, Below.refl _ _⟩
    clear r4 hb4 hb34 B3 NT3 SO3 S3 qL0 q50
    go_wp2_with fail
    go_loopg [7, 9, 10, 44] ws.length (fun n vk vl vw k wr => ∃ j os, j + n = ws.length ∧ vk = .bool true ∧ k = .int .i64 j ∧ JAt w4 wr ns (runFrom Md.init ns) (listsOf cs) j vl vw os)
    case atStart => exact ⟨0, [], by omega, rfl, rfl, J0.out⟩
    case round =>
      clear J0
      obtain ⟨j, os, hj, rfl, rfl, hJ⟩ := hrel
      have lw : w4.heap.size ≤ wr.heap.size := hJ.below.size
      by_cases hk0 : gk = 0
      · subst hk0
        obtain rfl : j = ws.length := by omega
        have SJ := hJ.scr S4.out.ok
        have Br := Lib.hid (B4.out.trans (hJ.below.mono B4.out.size))
        have SNr := Lib.hid (S4.out.later hJ.below)
        have JL := Lib.hid (show (joinC ns os).length = ns.length + 1 + ws.length by rw [joinC_len, hJ.len])
        have HMEM := Lib.hid hJ.mem
        have WO := Lib.hid hJ.want
        have sm := hJ.small
        obtain ⟨t1, t2, rfl⟩ := own_len hJ.want
        have SJh := Lib.hid SJ
        clear hJ hj SJ
        go_wp2_with fail
        refine (then_c (a := joinC ns os) (b := [onL ns.length (cLs 13 ns.length)]) (SJh.out.later (below1 wr _)).sl (scr_lit wr [onL ns.length (cLs 13 ns.length)] 29 wr.heap.size 1 rfl rfl (by simp [onL, cLs]; exact vl_zero_ok)).sl SJh.out.fair (fun n c q => by injection q with q1; cases q1) (by rw [JL.out]; simp; omega)).mono ?_
        rintro r w5 ⟨v5, rfl, r5, hb5⟩
        have hb5' := (below1 wr _).trans (hb5.mono (by simp))
        have B5 := Lib.hid (Br.out.trans (hb5'.mono Br.out.size))
        have SN5 := Lib.hid (SNr.out.later hb5')
        have WO5 := Lib.hid (own_below WO.out hb5')
        have SL5 : Scr w5 v5 (joinC ns os ++ [onL ns.length (cLs 13 ns.length)]) := Scr.of_own r5 (fun c hc => by
          rcases List.mem_append.1 hc with q | q
          · exact SJh.out.ok c q
          · simp at q; subst q; exact vl_zero_ok)
        have hLl : (joinC ns os ++ [onL ns.length (cLs 13 ns.length)]).length = ns.length + 2 + ws.length := by rw [List.length_append, JL.out]; simp; omega
        have HLL := Lib.hid hLl
        have PM := Lib.hid (permittedL_c SL5.sl (by rw [hLl]; omega))
        have SL5h := Lib.hid SL5
        clear r5 hb5 hb5' SL5 hLl
        go_wp2_with fail
        refine PM.out.mono ?_
        rintro r w6 ⟨rfl, hb6⟩
        have B6 := Lib.hid (B5.out.trans (hb6.mono B5.out.size))
        have SN6 := Lib.hid (SN5.out.later hb6)
        have WO6 := Lib.hid (own_below WO5.out hb6)
        have SL6 := Lib.hid (SL5h.out.later hb6)
        clear hb6 PM
        cases hokL : okFrom 500 Md.init (joinC ns os ++ [onL ns.length (cLs 13 ns.length)]) with
        | false =>
          clear hokL
          go_wp2
          go_ret
          exact ⟨rfl, B6.out⟩
        | true =>
          obtain ⟨J1, J2, J3⟩ := joined_law N1.out N3.out (fun o ho => by rw [NLS.out]; exact HMEM.out o ho) (runFrom Md.init ns) (joinC ns os ++ [onL ns.length (cLs 13 ns.length)]) rfl rfl hokL
          have SE := Lib.hid (see_s SL6.out hokL J1 (by decide) (by rw [HLL.out]; omega))
          have OKL := Lib.hid hokL
          have HJ3 := Lib.hid J3
          have J2' : ((runFrom Md.init (joinC ns os ++ [onL ns.length (cLs 13 ns.length)])).seq ns.length).map (runFrom Md.init (joinC ns os ++ [onL ns.length (cLs 13 ns.length)])).val = joinV (runFrom Md.init ns) os ++ joinV (runFrom Md.init ns) os := J2
          have hsl : ((runFrom Md.init (joinC ns os ++ [onL ns.length (cLs 13 ns.length)])).seq ns.length).length = 2 * (joinV (runFrom Md.init ns) os).length := by
            have := congrArg List.length J2'
            rw [List.length_map, List.length_append] at this
            omega
          have HJ2 := Lib.hid J2'; have HSL := Lib.hid hsl
          clear hokL J1 J2 J3 J2' hsl
          go_wp2_with fail
          refine SE.out.mono ?_
          rintro r w7 ⟨x, rfl, hse, _, hb7⟩
          obtain ⟨xe, xb, xv, xn⟩ := x
          have hxn := hse.n
          rw [HSL.out] at hxn
          simp only at hxn
          subst hxn
          generalize hWL : (joinV (runFrom Md.init ns) os).length = WL at *
          have HWL := Lib.hid hWL
          obtain ⟨ea, en, ec, rfl⟩ : ∃ a n c, xe = .slice a n c := by obtain ⟨a, c, q⟩ := hse.reads.elems.form; exact ⟨a, _, c, q⟩
          obtain ⟨ba, bc, rfl⟩ : ∃ a c, xb = .slice a (2 * WL) c := by obtain ⟨a, c, q⟩ := hse.reads.back.form; rw [List.length_reverse, names_length, HSL.out] at q; exact ⟨a, c, q⟩
          have hrv := hse.reads.vals
          rw [HJ2.out] at hrv
          obtain ⟨da, dc, rfl⟩ : ∃ a c, xv = .slice a (2 * WL) c := by
            obtain ⟨a, c, q, _⟩ := hrv
            rw [List.length_append, hWL, ← Nat.two_mul] at q; exact ⟨a, c, q⟩
          have B7 := Lib.hid (B6.out.trans (hb7.mono B6.out.size))
          have SN7 := Lib.hid (SN6.out.later hb7)
          have WO7 := Lib.hid (own_below WO6.out hb7)
          have SL7 := Lib.hid (SL6.out.later hb7)
          have RV := Lib.hid hrv
          have hb8 := below1 w7 (.cells #[.slice ea en ec, .slice ba (2 * WL) bc, .slice da (2 * WL) dc, .int .i64 (2 * (WL : Int))] 59)
          have G8 := heap_alloc_new w7 (.cells #[.slice ea en ec, .slice ba (2 * WL) bc, .slice da (2 * WL) dc, .int .i64 (2 * (WL : Int))] 59)
          have HSW : Hid (∀ W, Below (w7.alloc (.cells #[.slice ea en ec, .slice ba (2 * WL) bc, .slice da (2 * WL) dc, .int .i64 (2 * (WL : Int))] 59)).heap.size (w7.alloc (.cells #[.slice ea en ec, .slice ba (2 * WL) bc, .slice da (2 * WL) dc, .int .i64 (2 * (WL : Int))] 59)) W → (fun X : World => X.cell? ⟨w7.heap.size, 1, none⟩ = some (.slice ba (2 * WL) bc) ∧ X.cell? ⟨w7.heap.size, 2, none⟩ = some (.slice da (2 * WL) dc) ∧ X.cell? ⟨w7.heap.size, 3, none⟩ = some (.int .i64 (2 * (WL : Int)))) W) := fun W hb => ⟨cell_of_heap (o := 1) (heap_later G8 hb) rfl, cell_of_heap (o := 2) (heap_later G8 hb) rfl, cell_of_heap (o := 3) (heap_later G8 hb) rfl⟩
          have H78 := Lib.hid hb8
          have hcast : ((2 * WL : Nat) : Int) = 2 * (WL : Int) := by omega
          simp only [SV.agg, hcast]
          clear hse hb7 hrv SE hWL hb8 G8 hcast
          go_wp2_with fail
          generalize hw8 : w7.alloc (.cells #[.slice ea en ec, .slice ba (2 * WL) bc, .slice da (2 * WL) dc, .int .i64 (2 * (WL : Int))] 59) = w8 at *
          refine wp_region_T (fun X : World => X.cell? ⟨w7.heap.size, 1, none⟩ = some (.slice ba (2 * WL) bc) ∧ X.cell? ⟨w7.heap.size, 2, none⟩ = some (.slice da (2 * WL) dc) ∧ X.cell? ⟨w7.heap.size, 3, none⟩ = some (.int .i64 (2 * (WL : Int)))) [9, 10, 11, 33] [] run_mixed ?_
          simp only [List.size_toArray, List.length_cons, List.length_nil]
          have hbd : Below w8.heap.size w8 w8.drew := (Below.refl _ w8).drew
          have H9 := Lib.hid hbd
          have h79 : Hid (Below w7.heap.size w7 w8.drew) := H78.out.trans (hbd.mono H78.out.size)
          generalize w8.drew = w9 at *
          have HS := HSW.out _ hbd
          have hWL5 : WL ≤ 25000 := by omega
          have wqq : IntKind.i64.wrap (2 * (WL : Int)) = 2 * (WL : Int) := by rw [IntKind.wrap_i64]; omega
          have qee : ((2 * (WL : Int)) == 2 * (WL : Int)) = true := by simp
          clear hbd
          refine wpT_takeG (i := 0) (v := ?va0) rfl (by kernel_rfl) (fun _ _ _ h => h) rfl ?ya0 ?ra0
          case ya0 => ((intro wz; go_simp); try with_reducible rfl)
          try simp only [Act.put, List.setIfInBounds_toArray, List.set_cons_zero, List.set_cons_succ]
          refine wpT_takeG (i := 1) (v := ?va1) rfl (by kernel_rfl) (fun _ _ _ h => h) rfl ?ya1 ?ra1
          case ya1 => ((intro wz; go_simp); try with_reducible rfl)
          try simp only [Act.put, List.setIfInBounds_toArray, List.set_cons_zero, List.set_cons_succ]
          refine wpT_takeG (i := 2) (v := ?va2) rfl (by kernel_rfl) (fun _ _ _ h => h) rfl ?ya2 ?ra2
          case ya2 => ((intro wz; go_simp); try with_reducible rfl)
          try simp only [Act.put, List.setIfInBounds_toArray, List.set_cons_zero, List.set_cons_succ]
          refine wpT_takeG (i := 3) (v := ?va3) rfl (by kernel_rfl) (fun _ _ _ h => h) rfl ?ya3 ?ra3
          case ya3 => ((intro wz; go_simp); try with_reducible rfl)
          try simp only [Act.put, List.setIfInBounds_toArray, List.set_cons_zero, List.set_cons_succ]
          refine wpT_takeG (i := 4) (v := ?va4) rfl (by kernel_rfl) (fun _ _ _ h => h) rfl ?ya4 ?ra4
          case ya4 => ((intro wz; go_simp); try with_reducible rfl)
          try simp only [Act.put, List.setIfInBounds_toArray, List.set_cons_zero, List.set_cons_succ]
          refine wpT_takeG (i := 5) (v := ?va5) rfl (by kernel_rfl) (fun _ _ _ h => h) rfl ?ya5 ?ra5
          case ya5 => ((intro wz; go_simp); try with_reducible rfl)
          try simp only [Act.put, List.setIfInBounds_toArray, List.set_cons_zero, List.set_cons_succ]
          refine wpT_loadG (i := 6) (v := ?va6) rfl (by kernel_rfl) (fun _ _ _ h => h) rfl ?ya6 HS ?ra6
          case ya6 => ((intro wz hSw; (try dsimp only at hSw); go_split_ands; go_simp); try with_reducible rfl)
          try simp only [Act.put, List.setIfInBounds_toArray, List.set_cons_zero, List.set_cons_succ]
          refine wpT_takeG (i := 7) (v := ?va7) rfl (by kernel_rfl) (fun _ _ _ h => h) rfl ?ya7 ?ra7
          case ya7 => ((intro wz; go_simp); try with_reducible rfl)
          try simp only [Act.put, List.setIfInBounds_toArray, List.set_cons_zero, List.set_cons_succ]
          refine wpT_takeG (i := 8) (v := ?va8) rfl (by kernel_rfl) (fun _ _ _ h => h) rfl ?ya8 ?ra8
          case ya8 => ((intro wz; go_simp); try with_reducible rfl)
          try simp only [Act.put, List.setIfInBounds_toArray, List.set_cons_zero, List.set_cons_succ]
          refine wpT_runG (i := 9) (by kernel_rfl) rfl rfl ?_
          go_simp
          have Bq := below1 w9 (.cells #[.slice t1 WL t2, .slice t1 WL t2] 57)
          have Gq := heap_alloc_new w9 (.cells #[.slice t1 WL t2, .slice t1 WL t2] 57)
          have Hq := Lib.hid (H9.out.trans (Bq.mono H9.out.size))
          have h7q := Lib.hid (h79.out.trans (Bq.mono h79.out.size))
          generalize hwq : w9.alloc (.cells #[.slice t1 WL t2, .slice t1 WL t2] 57) = wq at *
          refine ⟨cond_keep (by decide) (HSW.out _ Hq.out), ?_⟩
          refine wpT_runG (i := 10) (by kernel_rfl) rfl rfl ?_
          go_simp
          have WOq := own_below WO7.out h7q.out
          refine (concatValue_c (cell_of_heap (o := 0) Gq rfl) (cell_of_heap (o := 1) Gq rfl) (n1 := WL) (n2 := WL) (Sl.of_own WOq) (Sl.of_own WOq) WOq.1 WOq.1 vals_one vals_one (own_fair WOq) (own_fair WOq) (by omega)).mono ?_
          rintro r wa ⟨va, rfl, oa, hba⟩
          have Ha := Lib.hid (Hq.out.trans (hba.mono Hq.out.size))
          have h7a := Lib.hid (h7q.out.trans (hba.mono h7q.out.size))
          refine ⟨cond_keep (by decide) (HSW.out _ Ha.out), ?_⟩
          have VA : Vls wa va (joinV (runFrom Md.init ns) os ++ joinV (runFrom Md.init ns) os) := by
            show Sl _ _ _ _
            rw [List.length_append, HWL.out, List.flatMap_append]; exact Sl.of_own oa
          refine wpT_runG (i := 11) (by kernel_rfl) rfl rfl ?_
          go_simp
          refine (equalVal_c (Sl.later RV.out h7a.out) VA (by rw [List.length_append, HWL.out]; omega)).mono ?_
          rintro r wb ⟨rfl, d, rfl⟩
          have Hb : Hid (Below w8.heap.size w8 (wa.drewN d)) := Below.drewN' Ha.out d
          have h7b : Hid (Below w7.heap.size w7 (wa.drewN d)) := Below.drewN' h7a.out d
          generalize wa.drewN d = wb at *
          refine ⟨cond_keep (by decide) (HSW.out _ Hb.out), ?_⟩
          have HS2 := HSW.out _ Hb.out
          clear HS Bq Gq hwq WOq oa hba VA
          refine wpT_takeG (i := 12) (v := ?vb12) rfl (by kernel_rfl) (fun _ _ _ h => h) rfl ?yb12 ?rb12
          case yb12 => ((intro wz; go_simp); try with_reducible rfl)
          try simp only [Act.put, List.setIfInBounds_toArray, List.set_cons_zero, List.set_cons_succ]
          refine wpT_takeG (i := 13) (v := ?vb13) rfl (by kernel_rfl) (fun _ _ _ h => h) rfl ?yb13 ?rb13
          case yb13 => ((intro wz; go_simp); try with_reducible rfl)
          try simp only [Act.put, List.setIfInBounds_toArray, List.set_cons_zero, List.set_cons_succ]
          refine wpT_takeG (i := 14) (v := ?vb14) rfl (by kernel_rfl) (fun _ _ _ h => h) rfl ?yb14 ?rb14
          case yb14 => ((intro wz; go_simp); try with_reducible rfl)
          try simp only [Act.put, List.setIfInBounds_toArray, List.set_cons_zero, List.set_cons_succ]
          refine wpT_loadG (i := 15) (v := ?vb15) rfl (by kernel_rfl) (fun _ _ _ h => h) rfl ?yb15 HS2 ?rb15
          case yb15 => ((intro wz hSw; (try dsimp only at hSw); go_split_ands; go_simp); try with_reducible rfl)
          try simp only [Act.put, List.setIfInBounds_toArray, List.set_cons_zero, List.set_cons_succ]
          refine wpT_takeG (i := 16) (v := ?vb16) rfl (by kernel_rfl) (fun _ _ _ h => h) rfl ?yb16 ?rb16
          case yb16 => ((intro wz; go_simp); try with_reducible rfl)
          try simp only [Act.put, List.setIfInBounds_toArray, List.set_cons_zero, List.set_cons_succ]
          refine wpT_takeG (i := 17) (v := ?vb17) rfl (by kernel_rfl) (fun _ _ _ h => h) rfl ?yb17 ?rb17
          case yb17 => ((intro wz; go_simp); try with_reducible rfl)
          try simp only [Act.put, List.setIfInBounds_toArray, List.set_cons_zero, List.set_cons_succ]
          refine wpT_takeG (i := 18) (v := ?vb18) rfl (by kernel_rfl) (fun _ _ _ h => h) rfl ?yb18 ?rb18
          case yb18 => ((intro wz; go_simp); try with_reducible rfl)
          try simp only [Act.put, List.setIfInBounds_toArray, List.set_cons_zero, List.set_cons_succ]
          refine wpT_takeG (i := 19) (v := ?vb19) rfl (by kernel_rfl) (fun _ _ _ h => h) rfl ?yb19 ?rb19
          case yb19 => ((intro wz; go_simp); try with_reducible rfl)
          try simp only [Act.put, List.setIfInBounds_toArray, List.set_cons_zero, List.set_cons_succ]
          refine wpT_takeG (i := 20) (v := ?vb20) rfl (by kernel_rfl) (fun _ _ _ h => h) rfl ?yb20 ?rb20
          case yb20 => ((intro wz; go_simp); try with_reducible rfl)
          try simp only [Act.put, List.setIfInBounds_toArray, List.set_cons_zero, List.set_cons_succ]
          refine wpT_takeG (i := 21) (v := ?vb21) rfl (by kernel_rfl) (fun _ _ _ h => h) rfl ?yb21 ?rb21
          case yb21 => ((intro wz; go_simp); try with_reducible rfl)
          try simp only [Act.put, List.setIfInBounds_toArray, List.set_cons_zero, List.set_cons_succ]
          refine wpT_takeG (i := 22) (v := ?vb22) rfl (by kernel_rfl) (fun _ _ _ h => h) rfl ?yb22 ?rb22
          case yb22 => ((intro wz; go_simp); try with_reducible rfl)
          try simp only [Act.put, List.setIfInBounds_toArray, List.set_cons_zero, List.set_cons_succ]
          refine wpT_loadG (i := 23) (v := ?vb23) rfl (by kernel_rfl) (fun _ _ _ h => h) rfl ?yb23 HS2 ?rb23
          case yb23 => ((intro wz hSw; (try dsimp only at hSw); go_split_ands; go_simp); try with_reducible rfl)
          try simp only [Act.put, List.setIfInBounds_toArray, List.set_cons_zero, List.set_cons_succ]
          refine wpT_takeG (i := 24) (v := ?vb24) rfl (by kernel_rfl) (fun _ _ _ h => h) rfl ?yb24 ?rb24
          case yb24 => ((intro wz; go_simp); try with_reducible rfl)
          try simp only [Act.put, List.setIfInBounds_toArray, List.set_cons_zero, List.set_cons_succ]
          refine wpT_takeG (i := 25) (v := ?vb25) rfl (by kernel_rfl) (fun _ _ _ h => h) rfl ?yb25 ?rb25
          case yb25 => ((intro wz; go_simp); try with_reducible rfl)
          try simp only [Act.put, List.setIfInBounds_toArray, List.set_cons_zero, List.set_cons_succ]
          refine wpT_loadG (i := 26) (v := ?vb26) rfl (by kernel_rfl) (fun _ _ _ h => h) rfl ?yb26 HS2 ?rb26
          case yb26 => ((intro wz hSw; (try dsimp only at hSw); go_split_ands; go_simp); try with_reducible rfl)
          try simp only [Act.put, List.setIfInBounds_toArray, List.set_cons_zero, List.set_cons_succ]
          refine wpT_takeG (i := 27) (v := ?vb27) rfl (by kernel_rfl) (fun _ _ _ h => h) rfl ?yb27 ?rb27
          case yb27 => ((intro wz; go_simp); try with_reducible rfl)
          try simp only [Act.put, List.setIfInBounds_toArray, List.set_cons_zero, List.set_cons_succ]
          refine wpT_takeG (i := 28) (v := ?vb28) rfl (by kernel_rfl) (fun _ _ _ h => h) rfl ?yb28 ?rb28
          case yb28 => ((intro wz; go_simp); try with_reducible rfl)
          try simp only [Act.put, List.setIfInBounds_toArray, List.set_cons_zero, List.set_cons_succ]
          refine wpT_takeG (i := 29) (v := ?vb29) rfl (by kernel_rfl) (fun _ _ _ h => h) rfl ?yb29 ?rb29
          case yb29 => ((intro wz; go_simp); try with_reducible rfl)
          try simp only [Act.put, List.setIfInBounds_toArray, List.set_cons_zero, List.set_cons_succ]
          refine wpT_takeG (i := 30) (v := ?vb30) rfl (by kernel_rfl) (fun _ _ _ h => h) rfl ?yb30 ?rb30
          case yb30 => ((intro wz; go_simp); try with_reducible rfl)
          try simp only [Act.put, List.setIfInBounds_toArray, List.set_cons_zero, List.set_cons_succ]
          refine wpT_takeG (i := 31) (v := ?vb31) rfl (by kernel_rfl) (fun _ _ _ h => h) rfl ?yb31 ?rb31
          case yb31 => ((intro wz; go_simp); try with_reducible rfl)
          try simp only [Act.put, List.setIfInBounds_toArray, List.set_cons_zero, List.set_cons_succ]
          refine wpT_takeG (i := 32) (v := ?vb32) rfl (by kernel_rfl) (fun _ _ _ h => h) rfl ?yb32 ?rb32
          case yb32 => ((intro wz; go_simp); try with_reducible rfl)
          try simp only [Act.put, List.setIfInBounds_toArray, List.set_cons_zero, List.set_cons_succ]
          refine wpT_runG (i := 33) (by kernel_rfl) rfl rfl ?_
          go_simp
          refine (alike_c (SN7.out.later h7b.out) (SL7.out.later h7b.out) (SN7.out.later h7b.out) OKL.out N1.out (fun k hk => by rw [joinC, List.append_assoc, List.append_assoc, runFrom_append]; exact run_isL_mono _ (mem_lists k hk)) (fun k hk => mem_lists k hk) (fun k hk => HJ3.out k hk) (by decide) (by omega) (by rw [HLL.out]; omega) (by omega)).mono ?_
          rintro r wf ⟨rfl, hbf⟩
          have Hf := Lib.hid (Hb.out.trans (hbf.mono Hb.out.size))
          have h7f := Lib.hid (h7b.out.trans (hbf.mono h7b.out.size))
          refine ⟨cond_keep (by decide) (HSW.out _ Hf.out), ?_⟩
          have BF := Lib.hid (B7.out.trans (h7f.out.mono B7.out.size))
          clear HS2 hbf
          refine wpT_takeG (i := 34) (v := ?vc34) rfl (by kernel_rfl) (fun _ _ _ h => h) rfl ?yc34 ?rc34
          case yc34 => ((intro wz; go_simp); try with_reducible rfl)
          try simp only [Act.put, List.setIfInBounds_toArray, List.set_cons_zero, List.set_cons_succ]
          refine wpT_takeG (i := 35) (v := ?vc35) rfl (by kernel_rfl) (fun _ _ _ h => h) rfl ?yc35 ?rc35
          case yc35 => ((intro wz; go_simp); try with_reducible rfl)
          try simp only [Act.put, List.setIfInBounds_toArray, List.set_cons_zero, List.set_cons_succ]
          refine wpT_done (by kernel_rfl) ?_ _
          go_wp2
          go_ret
          exact ⟨rfl, BF.out⟩
      · have hjw : j < ws.length := by omega
        obtain ⟨z, hz⟩ : ∃ z, ws[j]? = some z := ⟨_, List.getElem?_eq_getElem hjw⟩
        obtain ⟨zb, zo, zc, hzv, hzc⟩ := Sl.elem (l := ws) (f := fun (x : Int) => [Value.int .i64 x]) (fun _ => rfl) (by decide) SO4.out (by intro q; rw [q] at hz; simp at hz)
        simp only [Value.slice.injEq] at hzv
        obtain ⟨rfl, hzz, rfl⟩ := hzv
        clear hzz
        have ez0 := hzc j z hz 0 _ rfl
        rw [Nat.mul_one, Nat.add_zero] at ez0
        have zbl : zb < w4.heap.size := World.block_lt_of_cell? w4 _ ez0
        have ez := (hJ.below.cell (p := ⟨zb, zo + j, none⟩) zbl).trans ez0
        have CH := Lib.hid (chosen_c (NT4.out.later hJ.below) (by intro q; have := HL0.out; rw [q] at this; simp at this) (by omega) z)
        have HJ := Lib.hid hJ; have HJJ := Lib.hid hj
        clear hJ hj hz hzc ez0
        go_wp2_with fail
        refine CH.out.mono ?_
        rintro r w5 ⟨o, ho, rfl, rfl⟩
        have HO := Lib.hid ho
        have hol : (runFrom Md.init ns).isL o = true := mem_lists o (by rw [NLS.out]; exact ho)
        have hso : ((runFrom Md.init ns).seq o).length ≤ 500 := by
          have := N2.out.seq_le o
          have := run_cnt_le _ N1.out (by simp [Md.init])
          omega
        have SE := Lib.hid (see_s (S4.out.later HJ.out.below) N1.out hol (by decide) (by omega))
        clear CH ho hol ez
        go_wp2_with fail
        refine SE.out.mono ?_
        rintro r w6 ⟨x, rfl, hse, _, hb6⟩
        obtain ⟨xe, xb, xv, xn⟩ := x
        obtain ⟨ea, en, ec, rfl⟩ : ∃ a n c, xe = .slice a n c := by obtain ⟨a, c, q⟩ := hse.reads.elems.form; exact ⟨a, _, c, q⟩
        obtain ⟨ba, bn, bc, rfl⟩ : ∃ a n c, xb = .slice a n c := by obtain ⟨a, c, q⟩ := hse.reads.back.form; exact ⟨a, _, c, q⟩
        have hrv := hse.reads.vals
        have hfv := hse.fairv
        obtain ⟨da, dc, rfl⟩ : ∃ a c, xv = .slice a (((runFrom Md.init ns).seq o).map (runFrom Md.init ns).val).length c := by obtain ⟨a, c, q, _⟩ := hrv; exact ⟨a, c, q⟩
        generalize hVN : (((runFrom Md.init ns).seq o).map (runFrom Md.init ns).val).length = VN at *
        have HVN := Lib.hid hVN
        have hvn5 : VN ≤ 500 := by rw [← hVN, List.length_map]; exact hso
        have RV : Hid (∀ ob, Sl (w6.alloc ob) (.slice da VN dc) VN ((((runFrom Md.init ns).seq o).map (runFrom Md.init ns).val).flatMap Vl.cells)) := fun ob => by
          have q : Sl w6 (.slice da VN dc) (((runFrom Md.init ns).seq o).map (runFrom Md.init ns).val).length ((((runFrom Md.init ns).seq o).map (runFrom Md.init ns).val).flatMap Vl.cells) := hrv
          rw [hVN] at q
          exact q.later (below1 w6 ob)
        have FV := Lib.hid hfv
        have z56 := hb6.size
        have J6 := Lib.hid (fun ob => (HJ.out.later hb6).later (below1 w6 ob))
        have HSO := Lib.hid hso
        have sm := HJ.out.small
        simp only [SV.agg]
        clear hse hb6 hrv hfv SE hso hVN
        have hJL : (joinV (runFrom Md.init ns) os).length ≤ 25000 := by omega
        go_wp2_with (at_builtin; refine wpList_app2 rfl (.tmp 64) (.tmp 66) 57 rfl w4.heap.size 27 _ 3 32 Try.underlying57 Try.infoIValue rfl (by decide) _ _ _ rfl (J6.out _).want (.slice da VN dc) VN ((((runFrom Md.init ns).seq o).map (runFrom Md.init ns).val).flatMap Vl.cells) rfl (RV.out _) (by rw [flat_length _ 3 (fun _ => rfl), HVN.out]) vals_one (fair_cap FV.out ⟨_, _, rfl⟩) (by omega) (by decide) (by simp; omega) ?_; intro vw' w7 hown hg hnn; have M7 := Lib.hid ((J6.out _).more (o := o) (by rw [HVN.out]; exact hown) hg); have z7 := M7.out.2.2.size; clear hown hg hnn)
        have SJ : Scr w7 u9 (joinC ns os) := by
          obtain ⟨B, q⟩ := M7.out.1
          refine Scr.of_own (B := B) (by rw [joinC_len, HJ.out.len]; exact q) (fun c hc => (HJ.out.scr S4.out.ok).ok c hc)
        refine (then_c (a := joinC ns os) (b := [onL ns.length (cLs 12 o)]) (SJ.later (below1 w7 _)).sl (scr_lit w7 [onL ns.length (cLs 12 o)] 29 w7.heap.size 1 rfl rfl (by simp [onL, cLs]; exact vl_zero_ok)).sl SJ.fair (fun n c q => by injection q with q1; cases q1) (by rw [joinC_len, HJ.out.len]; simp; omega)).mono ?_
        rintro r w8 ⟨v8, rfl, r8, hb8⟩
        have N8 := Lib.hid (HJ.out.next HO.out HSO.out M7.out.2.1 M7.out.2.2 r8 hb8)
        clear r8 hb8 SJ
        go_wp2
        go_roundg (gk - 1)
        case measure => omega
        case rel => exact ⟨j + 1, _, by have := HJJ.out; omega, rfl, by go_num, N8.out⟩
end Bead
end Go.Proofs.Ytbpbbmamgajimaa
