/- Contracts of container/list's functions: what each does to lists and elements that lie in memory as Heap says; for every such memory. -/
import Derived.Test.YtidnmanljdadaaaHeap
import Derived.Test.YtidnmanljdadaaaProg
import Derived.ProofKit
import Derived.RegionTactic
import Derived.BigRegion
import Derived.BigQuiet
import Derived.Deep.QuietTactic
import Derived.Outline
import Derived.Lib.Hide
import Derived.LaidEqlPtr
set_option linter.all false
namespace Go.Proofs.Ytidnmanljdadaaa
open Go.RowKit
namespace Bead

theorem lnOf_setSq (m : BM) (l : Nat) (s : List Nat) : lnOf (m.setSq l s) = upd (lnOf m) l (s.length : Int) := by
  funext b; simp only [lnOf, BM.setSq, upd]; split <;> rfl
theorem lnOf_ins (m : BM) (l : Nat) (u z : List Nat) (N : Nat) (v : Value) (hs : m.sq l = u ++ z) : lnOf (m.ins l u z N v) = upd (lnOf m) l (lnOf m l + 1) := by
  funext b; simp only [lnOf, BM.ins, upd]; split
  · rw [hs]; simp; omega
  · rfl
theorem lnOf_rem (m : BM) (l : Nat) (u z : List Nat) (e : Nat) (hs : m.sq l = u ++ e :: z) : lnOf (m.rem l u z e) = upd (lnOf m) l (lnOf m l - 1) := by
  funext b; simp only [lnOf, BM.rem, upd]; split
  · rw [hs]; simp; omega
  · rfl

theorem size_setCell (w : World) (a : Addr) (v : Value) : (w.setCell a v).heap.size = w.heap.size := by simp [World.setCell]

theorem Try.sizeList : (Try.prog.info? 123).map (·.size) = some 5 := by kernel_rfl
theorem Try.sizeElem : (Try.prog.info? 121).map (·.size) = some 4 := by kernel_rfl

/-- A block is a plain row of cells. -/
def World.plainAt (W : World) (x : Nat) : Prop := ∃ c t, W.heap[x]? = some (.cells c t (0, 0))

section
variable {W : World} {x y : Nat}
theorem eql_E (hx : World.plainAt W x) (hy : World.plainAt W y) (b : Bool) (hb : decide (x = y) = b) : (binOp .eql 109 (.pointer (some ⟨x, 0, none⟩)) (.pointer (some ⟨y, 0, none⟩))).run Try.prog W = .ok (.bool b) W := by
  subst hb
  obtain ⟨j, hj, hjs⟩ := Option.map_eq_some_iff.1 Try.sizeElem
  obtain ⟨c, t, hx⟩ := hx
  obtain ⟨d, u, hy⟩ := hy
  by_cases h : x = y
  · subst h
    simpa using run_eql_ptr_same (P := Try.prog) W ⟨x, 0, none⟩ Try.underlying109 hj
  · simpa [h] using run_eql_ptr_other (P := Try.prog) W (a := ⟨x, 0, none⟩) (b := ⟨y, 0, none⟩) Try.underlying109 hj (by rw [hjs]; decide) (fun q => h (congrArg Addr.block q)) hx hy
theorem neq_of_eql {tp : TypeId} {p q : Option Addr} {b : Bool} (h : (binOp .eql tp (.pointer p) (.pointer q)).run Try.prog W = .ok (.bool b) W) : (binOp .neq tp (.pointer p) (.pointer q)).run Try.prog W = .ok (.bool (!b)) W := by
  simp only [binOp] at h ⊢
  rw [Sem.run_bind] at h ⊢
  cases hr : (Op.equal tp (.pointer p) (.pointer q)).run Try.prog W with
  | ok c w' => rw [hr] at h; simp at h ⊢; exact h
  | halt c w' => rw [hr] at h; simp at h
theorem eql_L (hx : World.plainAt W x) (hy : World.plainAt W y) (b : Bool) (hb : decide (x = y) = b) : (binOp .eql 107 (.pointer (some ⟨x, 0, none⟩)) (.pointer (some ⟨y, 0, none⟩))).run Try.prog W = .ok (.bool b) W := by
  subst hb
  obtain ⟨j, hj, hjs⟩ := Option.map_eq_some_iff.1 Try.sizeList
  obtain ⟨c, t, hx⟩ := hx
  obtain ⟨d, u, hy⟩ := hy
  by_cases h : x = y
  · subst h
    simpa using run_eql_ptr_same (P := Try.prog) W ⟨x, 0, none⟩ Try.underlying107 hj
  · simpa [h] using run_eql_ptr_other (P := Try.prog) W (a := ⟨x, 0, none⟩) (b := ⟨y, 0, none⟩) Try.underlying107 hj (by rw [hjs]; decide) (fun q => h (congrArg Addr.block q)) hx hy
theorem eql_nil_L (q : Option Addr) (hq : q ≠ none) : (binOp .eql 107 (.pointer none) (.pointer q)).run Try.prog W = .ok (.bool false) W := by
  have h : ∀ d : Nat, (Op.equalIn (d + 1) 107 (.pointer none) (.pointer q)).run Try.prog W = .ok false W := fun d => by
    cases q with
    | none => exact absurd rfl hq
    | some q => simp [Op.equalIn, run_underlying Try.underlying107]
  simp only [binOp]
  simp [Op.equal, Op.maxDepth, h 9999]
end
theorem Heap.plain {w : World} {L E : Nat → Prop} {nx pv ow : Nat → Option Nat} {vl : Nat → Value} {ln : Nat → Int} {b : Nat} (h : Heap w L E nx pv ow vl ln) (hb : L b ∨ E b) : World.plainAt w b := by
  rcases hb with hb | hb
  · exact ⟨_, _, h.l b hb⟩
  · exact ⟨_, _, h.e b hb⟩

section
variable {w : World} {m : BM} {l : Nat}

theorem init_c (h : BRep w m) (hl : m.L l) : Calls Try.prog 70 #[.pointer (some ⟨l, 0, none⟩)] w fun e w' =>
    e = .returned (.pointer (some ⟨l, 0, none⟩)) ∧ BRepI w' (m.setSq l []) l ∧ Keeps m.node w w' ∧ w'.heap.size = w.heap.size := by
  obtain ⟨nx, pv, hH, hG⟩ := h
  have c0 := hH.nxc (.inl hl)
  have c1 := hH.pvc (.inl hl)
  have c4 := hH.lnc hl
  have f := hH.free (.inl hl)
  go_enter Try.func70, Try.ntmps70
  go_wp2
  go_ret
  refine ⟨rfl, ⟨_, _, ?_, hG.init hl⟩, (((Keeps.refl _ _).setCell (fun _ => .inl hl) _).setCell (fun _ => .inl hl) _).setCell (fun _ => .inl hl) _, by simp only [size_setCell]⟩
  rw [lnOf_setSq]
  exact ((hH.setNx (.inl hl) (some l)).setPv (.inl hl) (some l)).setLn hl 0

theorem lazyInit_c (h : BRep w m) (hl : m.L l) : Calls Try.prog 104 #[.pointer (some ⟨l, 0, none⟩)] w fun e w' =>
    e = .returned (.tuple #[]) ∧ BRepI w' m l ∧ Keeps m.node w w' ∧ w'.heap.size = w.heap.size := by
  obtain ⟨nx, pv, hH, hG⟩ := h
  have c0 := hH.nxc (.inl hl)
  rcases hG.rg l hl with ⟨hn, hp, hs⟩ | hr
  · rw [hn, pt_none] at c0
    go_enter Try.func104, Try.ntmps104
    go_wp2_with (go_at_call 70; refine (init_c ⟨nx, pv, hH, hG⟩ hl).mono ?_; rintro e w' ⟨rfl, hR, hK, hz⟩)
    go_end0
    refine ⟨rfl, ?_, hK, hz⟩
    have : m.setSq l [] = m := by
      cases m; simp only [BM.setSq, BM.mk.injEq, true_and, and_true] at hs ⊢
      rw [← hs]; exact upd_self _ _
    rwa [this] at hR
  · have hb := ring_between (u := []) hr
    simp only [lt, List.getLast?_nil, Option.getD_none] at hb
    rw [hb.1, pt_some] at c0
    go_enter Try.func104, Try.ntmps104
    go_wp2
    go_end0
    exact ⟨rfl, ⟨nx, pv, hH, hG, hr⟩, Keeps.refl _ _, rfl⟩

theorem len_c (h : BRep w m) (hl : m.L l) : Calls Try.prog 74 #[.pointer (some ⟨l, 0, none⟩)] w fun e w' =>
    e = .returned (.int .i64 (m.sq l).length) ∧ w = w' := by
  obtain ⟨nx, pv, hH, hG⟩ := h
  have c4 := hH.lnc hl
  go_enter Try.func74, Try.ntmps74
  go_wp2
  go_ret
  exact ⟨rfl, rfl⟩

theorem front_c (h : BRep w m) (hl : m.L l) : Calls Try.prog 72 #[.pointer (some ⟨l, 0, none⟩)] w fun e w' =>
    e = .returned (pt (m.sq l).head?) ∧ w = w' := by
  obtain ⟨nx, pv, hH, hG⟩ := h
  have c0 := hH.nxc (.inl hl)
  have c4 := hH.lnc hl
  cases hs : m.sq l with
  | nil =>
    rw [lnOf, hs] at c4
    simp only [List.length_nil, Int.natCast_zero] at c4
    clear hs
    go_enter Try.func72, Try.ntmps72
    go_wp2
    go_ret
    exact ⟨rfl, rfl⟩
  | cons x z =>
    have hr := (hG.rg l hl).resolve_left (by rw [hs]; simp)
    rw [hs] at hr
    have hb := ring_between (u := []) hr
    simp only [lt, List.getLast?_nil, Option.getD_none, hd, List.head?_cons, Option.getD_some] at hb
    rw [hb.1, pt_some] at c0
    rw [lnOf, hs] at c4
    have hne : ((((x :: z).length : Nat) : Int) == 0) = false := by simp; omega
    generalize ((((x :: z).length : Nat) : Int)) = n at c4 hne
    clear hs hb hr
    go_enter Try.func72, Try.ntmps72
    go_wp2
    go_ret
    exact ⟨rfl, rfl⟩

theorem back_c (h : BRep w m) (hl : m.L l) : Calls Try.prog 73 #[.pointer (some ⟨l, 0, none⟩)] w fun e w' =>
    e = .returned (pt (m.sq l).getLast?) ∧ w = w' := by
  obtain ⟨nx, pv, hH, hG⟩ := h
  have c0 := hH.pvc (.inl hl)
  have c4 := hH.lnc hl
  rcases List.eq_nil_or_concat (m.sq l) with hs | ⟨z, x, hs⟩
  · rw [hs]
    rw [lnOf, hs] at c4
    simp only [List.length_nil, Int.natCast_zero] at c4
    clear hs
    go_enter Try.func73, Try.ntmps73
    go_wp2
    go_ret
    exact ⟨rfl, rfl⟩
  · have hr := (hG.rg l hl).resolve_left (by rw [hs]; simp)
    have hb := ring_between (u := m.sq l) (z := []) (by simpa using hr)
    have hg : (m.sq l).getLast? = some x := by rw [hs]; simp
    simp only [lt, hg, Option.getD_some, hd, List.head?_nil, Option.getD_none] at hb
    rw [hb.2, pt_some] at c0
    rw [hg]
    rw [lnOf, hs] at c4
    have hne : ((((z.concat x).length : Nat) : Int) == 0) = false := by simp; omega
    generalize ((((z.concat x).length : Nat) : Int)) = n at c4 hne
    clear hs hb hr hg
    go_enter Try.func73, Try.ntmps73
    go_wp2
    go_ret
    exact ⟨rfl, rfl⟩

set_option maxHeartbeats 400000 in
/-- 'insert': an element that is in no list, behind the node a, whose next one is n. -/
theorem insert_h {L E : Nat → Prop} {nx pv ow : Nat → Option Nat} {vl : Nat → Value} {ln : Nat → Int} {e a n : Nat} (hH : Heap w L E nx pv ow vl ln) (hl : L l) (he : E e) (ha : L a ∨ E a) (hn : L n ∨ E n)
    (hx : nx a = some n) (hea : ¬ e = a) (hen : ¬ e = n) (h0 : 0 ≤ ln l) (h1 : ln l < 4611686018427387904) :
    Calls Try.prog 114 #[.pointer (some ⟨l, 0, none⟩), .pointer (some ⟨e, 0, none⟩), .pointer (some ⟨a, 0, none⟩)] w fun r w' =>
      r = .returned (.pointer (some ⟨e, 0, none⟩)) ∧ Heap w' L E (upd (upd nx e (some n)) a (some e)) (upd (upd pv e (some a)) n (some e)) (upd ow e (some l)) vl (upd ln l (ln l + 1)) ∧
        Keeps (fun k => L k ∨ E k) w w' ∧ w'.heap.size = w.heap.size := by
  have l4 := hH.lnc hl
  have fl := hH.free (.inl hl)
  have e0 := hH.nxc (.inr he)
  have e1 := hH.pvc (.inr he)
  have e2 := hH.owc he
  have fe := hH.free (.inr he)
  have a0 := hH.nxc ha
  rw [hx, pt_some] at a0
  have fa := hH.free ha
  have n1 := hH.pvc hn
  have fn := hH.free hn
  have hle : ¬ l = e := fun q => hH.dis hl (q ▸ he)
  clear hx
  go_enter Try.func114, Try.ntmps114
  go_wp2
  go_ret
  refine ⟨rfl, ?_, ((((((Keeps.refl _ _).setCell (fun _ => .inr he) _).setCell (fun _ => .inr he) _).setCell (fun _ => ha) _).setCell (fun _ => hn) _).setCell (fun _ => .inr he) _).setCell (fun _ => .inl hl) _, by simp only [size_setCell]⟩
  exact (((((hH.setPv (.inr he) (some a)).setNx (.inr he) (some n)).setNx ha (some e)).setPv hn (some e)).setOw he (some l)).setLn hl _

set_option maxHeartbeats 400000 in
/-- 'remove': the element e between p and n. -/
theorem remove_h {L E : Nat → Prop} {nx pv ow : Nat → Option Nat} {vl : Nat → Value} {ln : Nat → Int} {e p n : Nat} (hH : Heap w L E nx pv ow vl ln) (hl : L l) (he : E e) (hp : L p ∨ E p) (hn : L n ∨ E n)
    (hx : nx e = some n) (hy : pv e = some p) (hep : ¬ e = p) (hen : ¬ e = n) (h0 : 1 ≤ ln l) (h1 : ln l < 4611686018427387904) :
    Calls Try.prog 107 #[.pointer (some ⟨l, 0, none⟩), .pointer (some ⟨e, 0, none⟩)] w fun r w' =>
      r = .returned (.tuple #[]) ∧ Heap w' L E (upd (upd nx p (some n)) e none) (upd (upd pv n (some p)) e none) (upd ow e none) vl (upd ln l (ln l - 1)) ∧
        Keeps (fun k => L k ∨ E k) w w' ∧ w'.heap.size = w.heap.size := by
  have l4 := hH.lnc hl
  have fl := hH.free (.inl hl)
  have e0 := hH.nxc (.inr he)
  have e1 := hH.pvc (.inr he)
  have e2 := hH.owc he
  have fe := hH.free (.inr he)
  rw [hx, pt_some] at e0
  rw [hy, pt_some] at e1
  have p0 := hH.nxc hp
  have fp := hH.free hp
  have n1 := hH.pvc hn
  have fn := hH.free hn
  have hle : ¬ l = e := fun q => hH.dis hl (q ▸ he)
  have hpe : ¬ p = e := fun q => hep q.symm
  have hne : ¬ n = e := fun q => hen q.symm
  clear hx
  clear hy
  go_enter Try.func107, Try.ntmps107
  go_wp2
  go_region
  go_wp2
  go_region
  go_wp2
  go_end0
  refine ⟨rfl, ?_, (((((((Keeps.refl _ _).setCell (fun _ => hp) _).setCell (fun _ => hn) _).setCell (fun _ => .inr he) _).setCell (fun _ => .inr he) _).setCell (fun _ => .inr he) _).setCell (fun _ => .inl hl) _).drew.drew, by simp only [World.drew, size_setCell]⟩
  exact ((((((hH.setNx hp (some n)).setPv hn (some p)).setNx (.inr he) none).setPv (.inr he) none).setOw he none).setLn hl _).drew.drew
set_option maxHeartbeats 1000000 in
set_option maxRecDepth 100000 in
/-- 'move': the element e, which stands between p and n, goes behind the node a, whose next one is then q. -/
theorem move_h {L E : Nat → Prop} {nx pv ow : Nat → Option Nat} {vl : Nat → Value} {ln : Nat → Int} {e p n a q : Nat} (hH : Heap w L E nx pv ow vl ln) (he : E e) (hp : L p ∨ E p) (hn : L n ∨ E n) (ha : L a ∨ E a) (hq : L q ∨ E q)
    (hx : nx e = some n) (hy : pv e = some p) (hz : upd nx p (some n) a = some q) (hep : ¬ e = p) (hen : ¬ e = n) (hea : ¬ e = a) (heq : ¬ e = q) (hqn : ¬ a = p → ¬ q = n) :
    Calls Try.prog 106 #[.pointer (some ⟨l, 0, none⟩), .pointer (some ⟨e, 0, none⟩), .pointer (some ⟨a, 0, none⟩)] w fun r w' =>
      r = .returned (.tuple #[]) ∧ Heap w' L E (upd (upd (upd nx p (some n)) e (some q)) a (some e)) (upd (upd (upd pv n (some p)) e (some a)) q (some e)) ow vl ln ∧
        Keeps (fun k => L k ∨ E k) w w' ∧ w'.heap.size = w.heap.size := by
  have e0 := hH.nxc (.inr he)
  have e1 := hH.pvc (.inr he)
  have fe := hH.free (.inr he)
  rw [hx, pt_some] at e0
  rw [hy, pt_some] at e1
  have p0 := hH.nxc hp
  have fp := hH.free hp
  have n1 := hH.pvc hn
  have fn := hH.free hn
  have a0 := hH.nxc ha
  have fa := hH.free ha
  have q1 := hH.pvc hq
  have fq := hH.free hq
  have hpe : ¬ p = e := fun q => hep q.symm
  have hne : ¬ n = e := fun q => hen q.symm
  have hae : ¬ a = e := fun q => hea q.symm
  have hqe : ¬ q = e := fun r => heq r.symm
  have q0 := neq_of_eql (tp := 109) (eql_E (hH.plain (.inr he)) (hH.plain ha) false (by simpa using hea))
  have q9 := eql_E (hH.plain (.inr he)) (hH.plain ha) false (by simpa using hea)
  clear hx hy
  by_cases hap : a = p
  · subst hap
    rw [upd_same] at hz
    obtain rfl : n = q := by simpa using hz
    clear hz hqn
    go_enter Try.func106, Try.ntmps106
    go_wp2
    go_region
    go_wp2
    go_region
    go_wp2
    go_end0
    refine ⟨rfl, ?_, (((((((Keeps.refl _ _).setCell (fun _ => hp) _).setCell (fun _ => hn) _).setCell (fun _ => .inr he) _).setCell (fun _ => .inr he) _).setCell (fun _ => ha) _).setCell (fun _ => hq) _).drew.drew, by simp only [World.drew, size_setCell]⟩
    exact ((((((hH.setNx hp (some n)).setPv hn (some a)).setPv (.inr he) (some a)).setNx (.inr he) (some n)).setNx ha (some e)).setPv hq (some e)).drew.drew
  · rw [upd_other _ _ hap] at hz
    rw [hz, pt_some] at a0
    have hqn := hqn hap
    clear hz
    go_enter Try.func106, Try.ntmps106
    go_wp2
    go_region
    go_wp2
    go_region
    go_wp2
    go_end0
    refine ⟨rfl, ?_, (((((((Keeps.refl _ _).setCell (fun _ => hp) _).setCell (fun _ => hn) _).setCell (fun _ => .inr he) _).setCell (fun _ => .inr he) _).setCell (fun _ => ha) _).setCell (fun _ => hq) _).drew.drew, by simp only [World.drew, size_setCell]⟩
    exact ((((((hH.setNx hp (some n)).setPv hn (some p)).setPv (.inr he) (some a)).setNx (.inr he) (some q)).setNx ha (some e)).setPv hq (some e)).drew.drew

set_option maxRecDepth 100000 in
theorem move_same {e : Nat} (hp : World.plainAt w e) : Calls Try.prog 106 #[.pointer (some ⟨l, 0, none⟩), .pointer (some ⟨e, 0, none⟩), .pointer (some ⟨e, 0, none⟩)] w fun r w' =>
    r = .returned (.tuple #[]) ∧ w = w' := by
  have q9 := eql_E hp hp true (by simp)
  go_enter Try.func106, Try.ntmps106
  go_wp2
  first | go_end0 | (refine bodyPost_ret (results_none rfl _ _ _) rfl ?_)
  exact ⟨rfl, rfl⟩

/-- A value of type any. -/
def IsAny (v : Value) : Prop := v = .nilIface ∨ ∃ t x, v = .iface t x

/-- 'insertValue': a new element between u and z. -/
theorem insertValue_c {u z : List Nat} {v : Value} (hv : IsAny v) (h : BRepI w m l) (hl : m.L l) (hs : m.sq l = u ++ z) (hz : (m.sq l).length < 4611686018427387904) :
    Calls Try.prog 105 #[.pointer (some ⟨l, 0, none⟩), v, .pointer (some ⟨lt l u, 0, none⟩)] w fun r w' =>
      r = .returned (.pointer (some ⟨w.heap.size, 0, none⟩)) ∧ BRepI w' (m.ins l u z w.heap.size v) l ∧ Keeps m.node w w' ∧ w'.heap.size = w.heap.size + 1 := by
  obtain ⟨nx, pv, hH, hG, hr⟩ := h
  have hN : ¬ m.node w.heap.size := fun q => Nat.lt_irrefl _ (hH.lt q)
  have hb := ring_between (u := u) (z := z) (hs ▸ hr)
  have hnode : ∀ x, x = l ∨ x ∈ m.sq l → m.node x := fun x hx => by
    rcases hx with q | q
    · subst q; exact .inl hl
    · exact .inr (hG.own l x hl q).1
  have hlt := hnode _ (near_lt (s := m.sq l) (by rw [hs]; intro x hx; simp [hx]) (rfl : lt l u = lt l u))
  have hhd := hnode _ (near_hd (s := m.sq l) (by rw [hs]; intro x hx; simp [hx]) (rfl : hd z l = hd z l))
  have n1 : ¬ w.heap.size = lt l u := fun q => hN (q ▸ hlt)
  have n2 : ¬ w.heap.size = hd z l := fun q => hN (q ▸ hhd)
  have key := insert_h (l := l) (e := w.heap.size) (a := lt l u) (n := hd z l) (hH.newElem v) hl (.inr rfl) (hlt.imp id .inl) (hhd.imp id .inl)
    (by rw [upd_other _ _ (fun q => n1 q.symm)]; exact hb.1) n1 n2 (by simp only [lnOf]; omega) (by simp only [lnOf]; omega)
  have KEY := Lib.hid key; clear key
  clear hb
  have FIN : ∀ w', Heap w' m.L (fun k => m.E k ∨ k = w.heap.size) (upd (upd (upd nx w.heap.size none) w.heap.size (some (hd z l))) (lt l u) (some w.heap.size)) (upd (upd (upd pv w.heap.size none) w.heap.size (some (lt l u))) (hd z l) (some w.heap.size))
      (upd (upd m.ow w.heap.size none) w.heap.size (some l)) (upd m.vl w.heap.size v) (upd (lnOf m) l (lnOf m l + 1)) → Keeps (fun k => m.L k ∨ m.E k ∨ k = w.heap.size) (w.alloc (.cells #[.pointer none, .pointer none, .pointer none, v] 121)) w' → w'.heap.size = (w.alloc (.cells #[.pointer none, .pointer none, .pointer none, v] 121)).heap.size →
      BRepI w' (m.ins l u z w.heap.size v) l ∧ Keeps m.node w w' ∧ w'.heap.size = w.heap.size + 1 := by
    intro w' hH' hK hz'
    refine ⟨⟨_, _, ?_, hG.insert hl hs hr hN⟩, ?_, by rw [hz']; simp⟩
    · rw [lnOf_ins _ _ _ _ _ _ hs]
      have e1 : upd (upd m.ow w.heap.size none) w.heap.size (some l) = upd m.ow w.heap.size (some l) := by funext j; simp only [upd]; split <;> rfl
      rw [e1] at hH'
      exact hH'
    · refine ((Keeps.refl m.node w).alloc _).then hK ?_
      intro i hi hS
      rcases hS with q | q | q
      · exact .inl q
      · exact .inr q
      · omega
  have F := Lib.hid FIN; clear FIN
  rcases hv with rfl | ⟨tv, xv, rfl⟩ <;>
  · go_enter Try.func105, Try.ntmps105
    go_wp2_with (go_at_call 114; refine KEY.out.mono ?_; rintro e w' ⟨rfl, hH', hK, hz'⟩)
    go_ret
    exact ⟨rfl, F.out _ hH' hK hz'⟩
end
end Bead
end Go.Proofs.Ytidnmanljdadaaa
