/- FnArrange returns true. -/
import Derived.Test.YtdmichkekipdpaaScene
import Derived.Test.YtdmichkekipdpaaMoves
import Derived.Test.YtdmichkekipdpaaShelf
set_option linter.all false
namespace Go.Proofs.Ytdmichkekipdpaa
open Go.RowKit
namespace Bead
set_option maxRecDepth 100000

/-- Numbers as cells. -/
def zints (l : List Int) : List Value := l.flatMap fun x => [.int .i64 x]
theorem zints_get {l : List Int} {j : Nat} {x : Int} (h : l[j]? = some x) : (zints l)[j]? = some (.int .i64 x) := by
  have := flat_get (fun (x : Int) => [Value.int .i64 x]) 1 (fun _ => rfl) l j 0 x h (by decide)
  simpa [zints] using this
/-- What a round knows: the rest, and what has been taken out of it, one after another. -/
structure OAt (w1 wr : World) (C : Nat) (E : List Nat) (k : Nat) (vr vw : Value) (R W : List Nat) : Prop where
  len : R.length + k = E.length
  wlen : W.length = k
  perm : (W ++ R).Perm E
  rest : wr.ownsRow w1.heap.size 3 1 vr R.length (ints R)
  want : wr.ownsRow C 3 1 vw k (ints W)
  low : ∀ b, vr.ownBlock = some b → b < C
  below : Below w1.heap.size w1 wr
  loC : w1.heap.size ≤ C
  hiC : C ≤ wr.heap.size
theorem OAt.keep {w1 wr w2 : World} {C k : Nat} {E R W : List Nat} {vr vw : Value} {S : Nat → Prop} (h : OAt w1 wr C E k vr vw R W) (hk : Keeps S wr w2) (h1 : ∀ b, vr.ownBlock = some b → ¬ S b) (h2 : ∀ b, vw.ownBlock = some b → ¬ S b) (h3 : ∀ b, b < w1.heap.size → ¬ S b) : OAt w1 w2 C E k vr vw R W :=
  ⟨h.len, h.wlen, h.perm, own_keeps h.rest hk h1, own_keeps h.want hk h2, h.low, h.below.trans (hk.below (fun b hb _ => h3 b hb) h.below.size), h.loC, Nat.le_trans h.hiC hk.size⟩
/-- One more is taken: first it is written down .. -/
theorem OAt.wrote {w1 wr w2 : World} {C k : Nat} {E R W : List Nat} {vr vw v' : Value} {x : Nat} {S : Nat → Prop} (h : OAt w1 wr C E k vr vw R W) (hk : Keeps S wr w2) (hS : ∀ b, S b → vw.ownBlock = some b) (hown : w2.ownsRow C 3 1 v' (k + 1) (ints W ++ [.int .i64 (x : Nat)])) :
    w2.ownsRow w1.heap.size 3 1 vr R.length (ints R) ∧ w2.ownsRow C 3 1 v' (k + 1) (ints (W ++ [x])) ∧ Below w1.heap.size w1 w2 ∧ C ≤ w2.heap.size := by
  refine ⟨own_keeps h.rest hk (fun b q z => ?_), by rw [ints_append]; exact hown, h.below.trans (hk.below (fun b hb _ z => ?_) h.below.size), Nat.le_trans h.hiC hk.size⟩
  · have := (h.want.lt b (hS b z)).1
    have := h.low b q
    omega
  · have := (h.want.lt b (hS b z)).1
    have := h.loC
    omega
theorem erase_perm {R : List Nat} {i x : Nat} (h : R[i]? = some x) : (x :: R.eraseIdx i).Perm R := by
  obtain ⟨hi, e⟩ := List.getElem?_eq_some_iff.1 h
  rw [List.eraseIdx_eq_take_drop_succ]
  conv => rhs; rw [← List.take_append_drop i R, List.drop_eq_getElem_cons hi, e]
  exact List.perm_middle.symm
/-- .. then it is deleted from the rest. -/
theorem OAt.next {w1 w2 w3 : World} {C k i x : Nat} {E R W : List Nat} {vr vr' vw vw' : Value} {wr : World} (h : OAt w1 wr C E k vr vw R W) (hx : R[i]? = some x) (hlen : R.length = R.length)
    (hw : w2.ownsRow C 3 1 vw' (k + 1) (ints (W ++ [x]))) (hb : Below w1.heap.size w1 w2) (hC : C ≤ w2.heap.size)
    (hr : w3.ownsRow w1.heap.size 3 1 vr' (R.length - 1) (ints (R.eraseIdx i))) (hv : vr'.ownBlock = vr.ownBlock) (hk : Keeps (fun b => vr.ownBlock = some b) w2 w3) (hro : ∀ b, vr.ownBlock = some b → w1.heap.size ≤ b) :
    OAt w1 w3 C E (k + 1) vr' vw' (R.eraseIdx i) (W ++ [x]) := by
  have hi := (List.getElem?_eq_some_iff.1 hx).1
  have el : (R.eraseIdx i).length = R.length - 1 := by rw [List.length_eraseIdx, if_pos hi]
  refine ⟨by have := h.len; omega, by have := h.wlen; simp; omega, ?_, by rw [el]; exact hr, own_keeps hw hk (fun b q z => ?_), fun b q => h.low b (hv ▸ q), hb.trans (hk.below (fun b hlt _ z => ?_) hb.size), h.loC, Nat.le_trans hC hk.size⟩
  · rw [List.append_assoc]
    exact ((List.Perm.refl W).append (erase_perm hx)).trans h.perm
  · have := (hw.lt b q).1
    have := h.low b z
    omega
  · have := hro b z
    omega

theorem own_num {w : World} {B : Nat} {e : TypeId} {b n c i x : Nat} {R : List Nat} (h : w.ownsRow B e 1 (.slice (some ⟨b, 0, none⟩) n c) n (ints R)) (hx : R[i]? = some x) : w.cell? ⟨b, i, none⟩ = some (.int .i64 (x : Nat)) := by
  have := h.cells (g := b) rfl i _ (ints_get hx)
  unfold Addr.add at this
  split at this
  · rename_i q; subst q; exact this
  · simpa using this
theorem grown1 {w w2 : World} {o : Obj} {row : Option Nat} (hg : (w.alloc o).grownBy w2 row) : Keeps (fun k => row = some k) w w2 := ((Keeps.refl _ w).alloc o).grown hg (fun _ q _ => q)
/-- In the midst of a round: the number is written down. -/
structure OMid (w1 wr : World) (C j : Nat) (R W : List Nat) (vr vw : Value) : Prop where
  rest : wr.ownsRow w1.heap.size 3 1 vr R.length (ints R)
  want : wr.ownsRow C 3 1 vw j (ints W)
  below : Below w1.heap.size w1 wr
  hiC : C ≤ wr.heap.size
theorem OAt.app1 {w1 wr w5 : World} {C j x : Nat} {E R W : List Nat} {vr vw v' vc : Value} {ys : List Value} {o : Obj} (h : OAt w1 wr C E j vr vw R W) (hc : wr.ownsRow C 29 8 vc j ys)
    (hown : w5.ownsRow C 3 1 v' (j + 1) (ints W ++ [.int .i64 (x : Nat)])) (hg : (wr.alloc o).grownBy w5 vw.ownBlock) : OMid w1 w5 C (j + 1) R (W ++ [x]) vr v' ∧ w5.ownsRow C 29 8 vc j ys := by
  obtain ⟨a, b, c, d⟩ := h.wrote (grown1 hg) (fun _ z => z) hown
  exact ⟨⟨a, b, c, d⟩, own_grown (hc.alloc o) (h.want.alloc o) (by decide) hg⟩
theorem OMid.app2 {w1 wr w6 : World} {C j i : Nat} {R W : List Nat} {vr vw vc : Value} {ys : List Value} {o : Obj} (h : OMid w1 wr C j R W vr vw) (hlow : ∀ b, vr.ownBlock = some b → b < C) (hlo : w1.heap.size ≤ C) (hc : wr.ownsRow C 29 8 vc i ys) (hg : (wr.alloc o).grownBy w6 vc.ownBlock) : OMid w1 w6 C j R W vr vw := by
  have hk := grown1 hg
  refine ⟨own_keeps h.rest hk (fun b q z => ?_), own_grown (h.want.alloc o) (hc.alloc o) (by decide) hg, h.below.trans (hk.below (fun b hb _ z => ?_) h.below.size), Nat.le_trans h.hiC hk.size⟩
  · have := (hc.lt b z).1
    have := hlow b q
    omega
  · have := (hc.lt b z).1
    omega
theorem calls_snoc (op : Int) {W : List Nat} {x : Nat} : ((W ++ [x]).map fun i => cMv op i 0).flatMap Cl.cells = (W.map fun i => cMv op i 0).flatMap Cl.cells ++ (cMv op x 0).cells := by simp

set_option maxHeartbeats 8000000 in
theorem arrange_c {w : World} {v vo : Value} {cs : List Cl} {os : List Int} (s : Scr w v cs) (so : Sl w vo os.length (zints os)) (hn : cs.length ≤ 1048576) (hno : os.length ≤ 1048576) (n : Int) :
    Calls Try.prog 7 #[v, .int .i64 n, vo] w fun r w' => r = .returned (.bool true) ∧ Below w.heap.size w w' := by
  have ST := Lib.hid (set_c s hn n)
  have SO := Lib.hid so
  obtain ⟨z1, z2, rfl⟩ : ∃ a c, vo = .slice a os.length c := by obtain ⟨a, c, q, _⟩ := so; exact ⟨a, c, q⟩
  clear s so
  go_enter Try.func7, Try.ntmps7
  go_wp2_with fail
  refine ST.out.mono ?_
  rintro r w1 ⟨hb1, hcase⟩
  have B1 := Lib.hid hb1
  have SO1 := Lib.hid (SO.out.later hb1)
  clear hb1 ST SO
  rcases hcase with ⟨l, vs, ve, rfl, hsc, hok0, hl0, hs1, hn1⟩ | rfl
  · have SC := Lib.hid hsc; have S1 := Lib.hid hs1
    generalize hns : namedC cs = ns at *
    clear hns hsc hok0 hl0
    obtain ⟨y1, y2, rfl⟩ := hs1.form
    have NL := names_length (m := runFrom Md.init ns) ((runFrom Md.init ns).seq l)
    have hlen := scene_len SC.out
    generalize hEE : (runFrom Md.init ns).names ((runFrom Md.init ns).seq l) = E at *
    have HEE := Lib.hid hEE
    have hE500 : E.length ≤ 500 := by omega
    have CL := Lib.hid (fun o => cloneInt_c (hn1.later (below1 w1 o)) (by omega))
    obtain ⟨x1, x2, rfl⟩ := hn1.form
    clear hs1 hn1 hEE NL hlen
    go_wp2_with fail
    refine (CL.out _).mono ?_
    rintro r w2 ⟨vr, rfl, hr2, hb2⟩
    have BX := Lib.hid (heap_alloc_new w1 (.cells #[.slice y1 ns.length y2, .int .i64 (l : Nat), .slice x1 E.length x2] 34))
    have SX := Lib.hid (S1.out.later (below1 w1 (.cells #[.slice y1 ns.length y2, .int .i64 (l : Nat), .slice x1 E.length x2] 34)))
    have OX := Lib.hid (SO1.out.later (below1 w1 (.cells #[.slice y1 ns.length y2, .int .i64 (l : Nat), .slice x1 E.length x2] 34)))
    have B1x := Lib.hid (B1.out.trans ((below1 w1 (.cells #[.slice y1 ns.length y2, .int .i64 (l : Nat), .slice x1 E.length x2] 34)).mono B1.out.size))
    have hzx : w1.heap.size + 1 = (w1.alloc (.cells #[.slice y1 ns.length y2, .int .i64 (l : Nat), .slice x1 E.length x2] 34)).heap.size := by simp
    generalize w1.alloc (.cells #[.slice y1 ns.length y2, .int .i64 (l : Nat), .slice x1 E.length x2] 34) = wx at *
    have A0 : Hid (OAt wx w2 w2.heap.size E 0 vr (.slice none 0 0) E []) := ⟨by omega, rfl, List.Perm.refl _, hr2, World.ownsRow_nil _ _ _ _, fun b q => (hr2.lt b q).2, hb2, hb2.size, Nat.le_refl _⟩
    have d2 := cell_of_heap (o := 2) (heap_later BX.out hb2) rfl
    clear CL hr2
    have HB2 := Lib.hid hb2
    clear hb2
    go_wp2_with fail
    go_loopg [9, 10, 11, 35] E.length (fun n vr vw vc k wr => ∃ j R W, j + n = E.length ∧ k = .int .i64 j ∧ OAt wx wr w2.heap.size E j vr vw R W ∧ wr.ownsRow w2.heap.size 29 8 vc j ((W.map fun i => cMv 8 i 0).flatMap Cl.cells))
    case atStart => exact ⟨0, E, [], by omega, rfl, A0.out, World.ownsRow_nil _ _ _ _⟩
    case round =>
      clear A0 d2
      obtain ⟨j, R, W, hj, rfl, hO, hC⟩ := hrel
      have BXr := heap_later BX.out hO.below
      have b0 := cell_of_heap (o := 0) BXr rfl
      have b1 := cell_of_heap (o := 1) BXr rfl
      have b2 := cell_of_heap (o := 2) BXr rfl
      have Br := Lib.hid (B1x.out.trans (hO.below.mono B1x.out.size))
      have lw : wx.heap.size ≤ wr.heap.size := hO.below.size
      by_cases hk0 : gk = 0
      · subst hk0
        obtain rfl : j = E.length := by omega
        obtain rfl : R = [] := List.eq_nil_of_length_eq_zero (by have := hO.len; omega)
        have hp := hO.perm
        rw [List.append_nil] at hp
        have LW := hO.wlen
        have LAW := Lib.hid (arrange_law (want := W) SC.out (by rw [HEE.out]; exact hp))
        obtain ⟨t1, t2, rfl⟩ := own_len hC
        have SCc : Scr wr (.slice t1 E.length t2) (W.map fun i => cMv 8 i 0) := Scr.of_own (B := w2.heap.size) (by rw [List.length_map, LW]; exact hC) (fun c hc => by obtain ⟨i, _, rfl⟩ := List.mem_map.1 hc; exact vl_zero_ok)
        have LN := SC.out.len
        have WC := Lib.hid (with_c (l := l) (ve := .slice x1 E.length x2) (SX.out.later hO.below) SCc ⟨_, _, _, rfl⟩ (by rw [List.length_map]; omega))
        have WN : Hid (wr.ownsRow w2.heap.size 3 1 u10 W.length (ints W)) := by rw [LW]; exact hO.want
        have hlW : (W.map fun i => cMv 8 i 0).length = E.length := by rw [List.length_map, LW]
        have HLW := Lib.hid hlW
        have HW := Lib.hid LW
        clear hO hC hj hp SCc LW hlW
        go_wp2_with fail
        refine WC.out.mono ?_
        rintro r w4 ⟨v4, rfl, s4, hb4⟩
        have B4 := Lib.hid (Br.out.trans (hb4.mono Br.out.size))
        have BX4 := Lib.hid (heap_later BXr hb4)
        have N4 := Lib.hid (own_below WN.out hb4)
        have FW := Lib.hid (forward_c s4 LAW.out.ok LAW.out.lst (by decide) (by rw [List.length_append, List.length_map, HLW.out]; omega))
        have S4 := Lib.hid s4
        have e1 := cell_of_heap (o := 1) BX4.out rfl
        clear hb4 s4 WC b0 b1 b2 BXr
        go_wp2_with fail
        refine FW.out.mono ?_
        rintro r w5 ⟨v5, g5, rfl, _, o5, hb5⟩
        have B5 := Lib.hid (B4.out.trans (hb5.mono B4.out.size))
        have BX5 := Lib.hid (heap_later BX4.out hb5)
        have N5 := Lib.hid (own_below N4.out hb5)
        have BW := Lib.hid (backward_c (S4.out.later hb5) LAW.out.ok LAW.out.lst (by decide) (by rw [List.length_append, List.length_map, HLW.out]; omega))
        have O5 : Hid (w5.ownsRow w4.heap.size 3 1 g5 W.length (ints W)) := by rw [LAW.out.len, LAW.out.fwd] at o5; exact o5
        have f1 := cell_of_heap (o := 1) BX5.out rfl
        clear hb5 o5 FW e1
        go_wp2_with fail
        refine BW.out.mono ?_
        rintro r w6 ⟨v6, g6, rfl, _, o6, hb6⟩
        have B6 := Lib.hid (B5.out.trans (hb6.mono B5.out.size))
        have N6 := Lib.hid (own_below N5.out hb6)
        have O56 := Lib.hid (own_below O5.out hb6)
        have o6' : w6.ownsRow w5.heap.size 3 1 g6 W.length (ints W.reverse) := by rw [LAW.out.len, LAW.out.bwd] at o6; exact o6
        have RV := Lib.hid (reverseInt_c o6' (by simp) (by have := HW.out; omega))
        have O6 := Lib.hid o6'
        have Z5 := Lib.hid (fun b q => (O5.out.lt b q).2)
        have ZN := Lib.hid (fun b q => (N5.out.lt b q).2)
        clear hb6 o6 o6' BW f1
        go_wp2_with fail
        refine RV.out.mono ?_
        rintro r w7 ⟨rfl, o7, hk7⟩
        rw [List.reverse_reverse] at o7
        have B7 : Hid (Below w.heap.size w w7) := B6.out.trans (hk7.below (fun b hb _ z => by have := (O6.out.lt b z).1; have := B5.out.size; omega) B6.out.size)
        have o57 := own_keeps O56.out hk7 (fun b q z => by have := (O6.out.lt b z).1; have := Z5.out b q; omega)
        have n7 := own_keeps N6.out hk7 (fun b q z => by have := (O6.out.lt b z).1; have := ZN.out b q; omega)
        have HW5 : W.length ≤ 500 := by have := HW.out; omega
        have E1 := Lib.hid (equalInt_c (Nats.of_own o57) (Nats.of_own n7) (by omega))
        have E2 : Hid (∀ d, Calls Try.prog 28 #[g6, u10] (w7.drewN d) fun r w' => r = .returned (.bool true) ∧ ∃ d', w' = (w7.drewN d).drewN d') := fun d => equalInt_c (Nats.drewN (Nats.of_own o7) d) (Nats.drewN (Nats.of_own n7) d) (by omega)
        clear hk7 o7 o57 n7 RV
        go_wp2_with fail
        refine E1.out.mono ?_
        rintro r w8 ⟨rfl, d, rfl⟩
        clear E1
        go_wp2_with fail
        refine (E2.out d).mono ?_
        rintro r w9 ⟨rfl, d', rfl⟩
        have BF : Hid (Below w.heap.size w (w7.drewN (d + d'))) := Below.drewN' B7.out _
        clear E2
        go_wp2
        go_ret
        exact ⟨rfl, BF.out⟩
      · by_cases hjo : j < os.length
        · obtain ⟨z, hz⟩ : ∃ z, os[j]? = some z := ⟨_, List.getElem?_eq_getElem hjo⟩
          obtain ⟨zb, zo, zc, hzv, hzc⟩ : ∃ b off cap, (Value.slice z1 os.length z2) = .slice (some ⟨b, off, none⟩) os.length cap ∧ ∀ k x, (zints os)[k]? = some x → wx.cell? ⟨b, off + k, none⟩ = some x := by
            obtain ⟨a, cap, q, hc⟩ := OX.out
            obtain ⟨b, off, rfl, hd⟩ := hc (by intro q; have := zints_get hz; rw [q] at this; simp at this)
            exact ⟨b, off, cap, q, hd⟩
          simp only [Value.slice.injEq] at hzv
          obtain ⟨rfl, hzz, rfl⟩ := hzv
          clear hzz
          have zbl : zb < wx.heap.size := World.block_lt_of_cell? wx _ (hzc j _ (zints_get hz))
          have ez := (hO.below.cell (p := ⟨zb, zo + j, none⟩) zbl).trans (hzc j _ (zints_get hz))
          have qjo : decide ((j : Int) < (os.length : Int)) = true := by simp; omega
          clear hzc hz
          have LR := hO.len
          have hRl : 0 < R.length := by omega
          obtain ⟨rb, rc, rfl⟩ := own_form hO.rest hRl
          obtain ⟨at', hat, hm⟩ := umod z hRl (by omega)
          obtain ⟨x, hx⟩ : ∃ x, R[at']? = some x := ⟨_, List.getElem?_eq_getElem hat⟩
          have ex := own_num hO.rest hx
          have HO := Lib.hid hO; have HC := Lib.hid hC; have HX := Lib.hid hx; have HJ := Lib.hid hj
          have hjE : j < E.length := by omega
          have hCr : w2.heap.size ≤ wr.heap.size := hO.hiC
          have RO := Lib.hid (fun b q => (hO.rest.lt b q).1)
          clear hO hC hx hj b0 b1 b2 BXr
          go_wp2_with (first
            | (at_builtin; refine wpList_app2 rfl (.tmp 52) (.tmp 57) 32 rfl w2.heap.size 3 _ 1 8 Try.underlying32 Try.infoInt rfl (by decide) _ _ _ rfl (HO.out.want.alloc _) _ 1 [.int .i64 (x : Nat)] rfl (sl_at' _ _ _ _ _ _ (by simp)) rfl (by simp [Value.oneCell']) (.inr (.inr (by decide))) (by omega) (by decide) (by simp; omega) ?_; intro vw' w5 hown hg hnn; have M5 := Lib.hid (HO.out.app1 HC.out hown hg); have ex5 := own_num M5.out.1.rest HX.out; have hC5 := M5.out.1.hiC; clear hown hg hnn)
            | (at_builtin; refine wpList_app2 rfl (.tmp 59) (.tmp 65) 22 rfl w2.heap.size 29 _ 8 72 Try.underlying22 Try.infoICall rfl (by decide) _ _ _ rfl (M5.out.2.alloc _) _ 1 (cMv 8 x 0).cells rfl (sl_at' _ _ _ _ _ _ (by simp)) rfl (by simp [Cl.cells, Value.oneCell']) (.inr (.inr (by decide))) (by omega) (by decide) (by simp; omega) ?_; intro vc' w6 hown hg hnn; have M6 := Lib.hid (M5.out.1.app2 HO.out.low HO.out.loC M5.out.2 hg); have C6 := Lib.hid hown; clear hown hg hnn))
          refine (deleteInt_c (i := at') M6.out.rest rfl hat).mono ?_
          rintro r w7 ⟨vr', rfl, o7, hv7, hk7⟩
          have N7 := Lib.hid (HO.out.next HX.out rfl M6.out.want M6.out.below M6.out.hiC o7 hv7 hk7 RO.out)
          have C7 : Hid (w7.ownsRow w2.heap.size 29 8 vc' (j + 1) (((W ++ [x]).map fun i => cMv 8 i 0).flatMap Cl.cells)) := by
            rw [calls_snoc]
            exact own_keeps C6.out hk7 (fun b q z => by have := (C6.out.lt b q).1; have := HO.out.low b z; omega)
          clear o7 hv7 hk7
          go_wp2
          go_roundg (gk - 1)
          case measure => omega
          case rel => exact ⟨j + 1, _, _, by have := HJ.out; omega, by go_num, N7.out, C7.out⟩
        · have qjo : decide ((j : Int) < (os.length : Int)) = false := by simp; omega
          have LR := hO.len
          have hRl : 0 < R.length := by omega
          obtain ⟨rb, rc, rfl⟩ := own_form hO.rest hRl
          have hat : 0 < R.length := hRl
          obtain ⟨x, hx⟩ : ∃ x, R[0]? = some x := ⟨_, List.getElem?_eq_getElem hat⟩
          have ex := own_num hO.rest hx
          have HO := Lib.hid hO; have HC := Lib.hid hC; have HX := Lib.hid hx; have HJ := Lib.hid hj
          have hjE : j < E.length := by omega
          have hCr : w2.heap.size ≤ wr.heap.size := hO.hiC
          have RO := Lib.hid (fun b q => (hO.rest.lt b q).1)
          clear hO hC hx hj b0 b1 b2 BXr
          go_wp2_with (first
            | (at_builtin; refine wpList_app2 rfl (.tmp 52) (.tmp 57) 32 rfl w2.heap.size 3 _ 1 8 Try.underlying32 Try.infoInt rfl (by decide) _ _ _ rfl (HO.out.want.alloc _) _ 1 [.int .i64 (x : Nat)] rfl (sl_at' _ _ _ _ _ _ (by simp)) rfl (by simp [Value.oneCell']) (.inr (.inr (by decide))) (by omega) (by decide) (by simp; omega) ?_; intro vw' w5 hown hg hnn; have M5 := Lib.hid (HO.out.app1 HC.out hown hg); have ex5 := own_num M5.out.1.rest HX.out; have hC5 := M5.out.1.hiC; clear hown hg hnn)
            | (at_builtin; refine wpList_app2 rfl (.tmp 59) (.tmp 65) 22 rfl w2.heap.size 29 _ 8 72 Try.underlying22 Try.infoICall rfl (by decide) _ _ _ rfl (M5.out.2.alloc _) _ 1 (cMv 8 x 0).cells rfl (sl_at' _ _ _ _ _ _ (by simp)) rfl (by simp [Cl.cells, Value.oneCell']) (.inr (.inr (by decide))) (by omega) (by decide) (by simp; omega) ?_; intro vc' w6 hown hg hnn; have M6 := Lib.hid (M5.out.1.app2 HO.out.low HO.out.loC M5.out.2 hg); have C6 := Lib.hid hown; clear hown hg hnn))
          refine (deleteInt_c (i := 0) M6.out.rest rfl hat).mono ?_
          rintro r w7 ⟨vr', rfl, o7, hv7, hk7⟩
          have N7 := Lib.hid (HO.out.next HX.out rfl M6.out.want M6.out.below M6.out.hiC o7 hv7 hk7 RO.out)
          have C7 : Hid (w7.ownsRow w2.heap.size 29 8 vc' (j + 1) (((W ++ [x]).map fun i => cMv 8 i 0).flatMap Cl.cells)) := by
            rw [calls_snoc]
            exact own_keeps C6.out hk7 (fun b q z => by have := (C6.out.lt b q).1; have := HO.out.low b z; omega)
          clear o7 hv7 hk7
          go_wp2
          go_roundg (gk - 1)
          case measure => omega
          case rel => exact ⟨j + 1, _, _, by have := HJ.out; omega, by go_num, N7.out, C7.out⟩
  · simp only [scene0]
    go_wp2
    go_ret
    refine ⟨rfl, ?_⟩
    exact B1.out.trans ((below1 _ _).mono B1.out.size)
end Bead
end Go.Proofs.Ytdmichkekipdpaa
