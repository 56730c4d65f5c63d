/- Contracts of container/list's exported functions, on sequences of blocks: for every memory in which lists and elements lie as BRep says. -/
import Derived.Test.YtidnmanljdadaaaLWalk
set_option linter.all false
namespace Go.Proofs.Ytidnmanljdadaaa
open Go.RowKit
namespace Bead
set_option maxRecDepth 100000

theorem setSq_same (m : BM) (l : Nat) : m.setSq l (m.sq l) = m := by cases m; simp only [BM.setSq, upd_self]
theorem setSq_eq (m : BM) (l : Nat) (s : List Nat) (h : m.sq l = s) : m.setSq l s = m := by subst h; exact setSq_same m l

section
variable {w : World} {m : BM} {l : Nat}

theorem BRep.plain (h : BRep w m) {k : Nat} (hk : m.node k) : World.plainAt w k := by obtain ⟨nx, pv, a, _⟩ := h; exact a.plain hk
theorem BRep.vlc (h : BRep w m) {e : Nat} (he : m.E e) : w.cell? ⟨e, 3, none⟩ = some (m.vl e) := by obtain ⟨nx, pv, a, _⟩ := h; exact a.vlc he
theorem BRep.free (h : BRep w m) {k : Nat} (hk : m.node k) (o : Nat) : w.frozen? ⟨k, o, none⟩ = false := by obtain ⟨nx, pv, a, _⟩ := h; exact a.free hk o
theorem BRep.own (h : BRep w m) {b e : Nat} (hb : m.L b) (he : e ∈ m.sq b) : m.E e ∧ m.ow e = some b := by obtain ⟨nx, pv, _, g⟩ := h; exact g.own b e hb he
theorem BRep.nodup (h : BRep w m) {b : Nat} (hb : m.L b) : (m.sq b).Nodup := by obtain ⟨nx, pv, _, g⟩ := h; exact g.nodup b hb
theorem BRep.dis (h : BRep w m) {b : Nat} (hb : m.L b) : ¬ m.E b := by obtain ⟨nx, pv, _, g⟩ := h; exact g.dis b hb
theorem BRep.setVl (h : BRep w m) {e : Nat} (he : m.E e) (x : Value) : BRep (w.setCell ⟨e, 3, none⟩ x) (m.setVl e x) := by
  obtain ⟨nx, pv, a, g⟩ := h
  exact ⟨nx, pv, a.setVl he x, ⟨g.rg, g.nodup, g.own, g.loose, g.dis⟩⟩
theorem BRep.newListZero (h : BRep w m) : BRep (w.alloc (.cells #[.pointer none, .pointer none, .pointer none, .nilIface, .int .i64 0] 123)) (m.newList w.heap.size) := by
  have hN : ¬ m.node w.heap.size := fun q => Nat.lt_irrefl _ (h.lt q)
  obtain ⟨nx, pv, a, g⟩ := h
  refine ⟨_, _, ?_, g.newList hN⟩
  have e1 : lnOf (m.newList w.heap.size) = upd (lnOf m) w.heap.size 0 := by funext b; simp only [lnOf, BM.newList, upd]; split <;> rfl
  rw [e1]
  exact a.newList
theorem BRep.newElemZero (h : BRep w m) (v : Value) : BRep (w.alloc (.cells #[.pointer none, .pointer none, .pointer none, v] 121)) (m.newElem w.heap.size v) := by
  have hN : ¬ m.node w.heap.size := fun q => Nat.lt_irrefl _ (h.lt q)
  obtain ⟨nx, pv, a, g⟩ := h
  exact ⟨_, _, a.newElem v, g.newElem hN⟩

theorem new_c (h : BRep w m) : Calls Try.prog 71 #[] w fun r w' =>
    r = .returned (.pointer (some ⟨w.heap.size, 0, none⟩)) ∧ BRep w' (m.newList w.heap.size) ∧ Keeps m.node w w' ∧ w'.heap.size = w.heap.size + 1 := by
  have key := init_c (l := w.heap.size) h.newListZero (.inr rfl)
  have e1 : (m.newList w.heap.size).setSq w.heap.size [] = m.newList w.heap.size := setSq_eq _ _ _ (by simp [BM.newList, upd])
  rw [e1] at key
  have KEY := Lib.hid key; clear key
  go_enter Try.func71, Try.ntmps71
  go_wp2_with (go_at_call 70; refine KEY.out.mono ?_; rintro e w' ⟨rfl, hR, hK, hz'⟩)
  go_ret
  refine ⟨rfl, hR.rep, ?_, by rw [hz']; simp⟩
  refine ((Keeps.refl m.node w).alloc _).then hK ?_
  intro i hi hS
  rcases hS with (q | q) | q
  · exact .inl q
  · omega
  · exact .inr q

theorem pushFront_c {v : Value} (hv : IsAny v) (h : BRep w m) (hl : m.L l) (hz : (m.sq l).length < 4611686018427387904) :
    Calls Try.prog 56 #[.pointer (some ⟨l, 0, none⟩), v] w fun r w' =>
      r = .returned (.pointer (some ⟨w.heap.size, 0, none⟩)) ∧ BRep w' (m.ins l [] (m.sq l) w.heap.size v) ∧ Keeps m.node w w' ∧ w'.heap.size = w.heap.size + 1 := by
  have k1 := Lib.hid (lazyInit_c h hl)
  have k2 := Lib.hid (fun w1 (hw : BRepI w1 m l) => insertValue_c (u := []) (z := m.sq l) hv hw hl rfl hz)
  clear h
  go_enter Try.func56, Try.ntmps56
  go_wp2_with fail
  refine k1.out.mono ?_
  rintro e w1 ⟨rfl, hR, hK, hz1⟩
  have HR := Lib.hid hR; have HZ := Lib.hid hz1; clear hR hz1
  go_wp2_with fail
  refine (k2.out _ HR.out).mono ?_
  rintro e w2 ⟨rfl, hR2, hK2, hz2⟩
  rw [HZ.out] at hR2 hz2 ⊢
  have HR2 := Lib.hid hR2; have HZ2 := Lib.hid hz2; clear hR2 hz2
  go_wp2
  go_ret
  exact ⟨rfl, HR2.out.rep, hK.then hK2 (fun _ _ q => q), HZ2.out⟩

theorem pushBack_c {v : Value} (hv : IsAny v) (h : BRep w m) (hl : m.L l) (hz : (m.sq l).length < 4611686018427387904) :
    Calls Try.prog 58 #[.pointer (some ⟨l, 0, none⟩), v] w fun r w' =>
      r = .returned (.pointer (some ⟨w.heap.size, 0, none⟩)) ∧ BRep w' (m.ins l (m.sq l) [] w.heap.size v) ∧ Keeps m.node w w' ∧ w'.heap.size = w.heap.size + 1 := by
  have k1 := Lib.hid (lazyInit_c h hl)
  have k2 := Lib.hid (fun w1 (hw : BRepI w1 m l) => insertValue_c (u := m.sq l) (z := []) hv hw hl (by simp) hz)
  clear h
  go_enter Try.func58, Try.ntmps58
  go_wp2_with fail
  refine k1.out.mono ?_
  rintro e w1 ⟨rfl, hR, hK, hz1⟩
  have c1 : w1.cell? ⟨l, 1, none⟩ = some (.pointer (some ⟨lt l (m.sq l), 0, none⟩)) := by
    obtain ⟨nx, pv, a, g, hr⟩ := hR
    have := ring_between (u := m.sq l) (z := []) (by simpa using hr)
    have c := a.pvc (.inl hl)
    rw [show l = hd [] l from rfl, this.2] at c
    exact c
  have HR := Lib.hid hR; have HZ := Lib.hid hz1; clear hR hz1
  go_wp2_with fail
  refine (k2.out _ HR.out).mono ?_
  rintro e w2 ⟨rfl, hR2, hK2, hz2⟩
  rw [HZ.out] at hR2 hz2 ⊢
  have HR2 := Lib.hid hR2; have HZ2 := Lib.hid hz2; clear hR2 hz2
  go_wp2
  go_ret
  exact ⟨rfl, HR2.out.rep, hK.then hK2 (fun _ _ q => q), HZ2.out⟩

theorem BRep.inited (h : BRep w m) (hl : m.L l) (hne : m.sq l ≠ []) : BRepI w m l := by
  obtain ⟨nx, pv, a, g⟩ := h
  exact ⟨nx, pv, a, g, (g.rg l hl).resolve_left (fun q => hne q.2.2)⟩

/-- What the cells of an element in the middle of a list hold. -/
theorem BRep.mid {u z : List Nat} {e : Nat} (h : BRep w m) (hl : m.L l) (hs : m.sq l = u ++ e :: z) :
    w.cell? ⟨e, 0, none⟩ = some (.pointer (some ⟨hd z l, 0, none⟩)) ∧ w.cell? ⟨e, 1, none⟩ = some (.pointer (some ⟨Bead.lt l u, 0, none⟩)) ∧ w.cell? ⟨e, 2, none⟩ = some (.pointer (some ⟨l, 0, none⟩)) := by
  have hi := h.inited hl (by rw [hs]; simp)
  obtain ⟨nx, pv, a, g, hr⟩ := hi
  have hE := g.own l e hl (by rw [hs]; simp)
  have := ring_mid (hs ▸ hr)
  have c0 := a.nxc (.inr hE.1)
  have c1 := a.pvc (.inr hE.1)
  have c2 := a.owc hE.1
  rw [this.1] at c0; rw [this.2] at c1; rw [hE.2] at c2
  exact ⟨c0, c1, c2⟩

theorem BRep.owc (h : BRep w m) {e : Nat} (he : m.E e) : w.cell? ⟨e, 2, none⟩ = some (pt (m.ow e)) := by obtain ⟨nx, pv, a, _⟩ := h; exact a.owc he

/-- 'e.list == l' and 'e.list != l'. -/
theorem BRep.eql_own (h : BRep w m) {e : Nat} (he : m.E e) (hl : m.L l) (hown : ∀ b, m.ow e = some b → m.L b) (b : Bool) (hb : decide (m.ow e = some l) = b) (W : World) (hW : ∀ k, m.node k → World.plainAt W k) :
    (binOp .eql 107 (pt (m.ow e)) (.pointer (some ⟨l, 0, none⟩))).run Try.prog W = .ok (.bool b) W := by
  have _ := h; have _ := he
  cases ho : m.ow e with
  | none =>
    rw [ho] at hb; simp at hb; subst hb
    exact eql_nil_L _ (by simp)
  | some k =>
    rw [ho] at hb
    exact eql_L (hW k (.inl (hown k ho))) (hW l (.inl hl)) b (by simpa using hb)

theorem insertBefore_c {v : Value} {u z : List Nat} {k : Nat} (hv : IsAny v) (h : BRep w m) (hl : m.L l) (hs : m.sq l = u ++ k :: z) (hz : (m.sq l).length < 4611686018427387904) :
    Calls Try.prog 59 #[.pointer (some ⟨l, 0, none⟩), v, .pointer (some ⟨k, 0, none⟩)] w fun r w' =>
      r = .returned (.pointer (some ⟨w.heap.size, 0, none⟩)) ∧ BRep w' (m.ins l u (k :: z) w.heap.size v) ∧ Keeps m.node w w' ∧ w'.heap.size = w.heap.size + 1 := by
  have hi := h.inited hl (by rw [hs]; simp)
  have k2 := Lib.hid (insertValue_c (u := u) (z := k :: z) hv hi hl hs hz)
  obtain ⟨c0, c1, c2⟩ := h.mid hl hs
  have q := neq_of_eql (tp := 107) (eql_L (h.plain (.inl hl)) (h.plain (.inl hl)) true (by simp))
  have hs' := Lib.hid hs
  clear hs hz hi h
  go_enter Try.func59, Try.ntmps59
  go_wp2_with fail
  refine k2.out.mono ?_
  rintro e w2 ⟨rfl, hR2, hK2, hz2⟩
  have HR2 := Lib.hid hR2; have HZ2 := Lib.hid hz2; clear hR2 hz2
  go_wp2
  go_ret
  exact ⟨rfl, HR2.out.rep, hK2, HZ2.out⟩

theorem insertAfter_c {v : Value} {u z : List Nat} {k : Nat} (hv : IsAny v) (h : BRep w m) (hl : m.L l) (hs : m.sq l = u ++ k :: z) (hz : (m.sq l).length < 4611686018427387904) :
    Calls Try.prog 61 #[.pointer (some ⟨l, 0, none⟩), v, .pointer (some ⟨k, 0, none⟩)] w fun r w' =>
      r = .returned (.pointer (some ⟨w.heap.size, 0, none⟩)) ∧ BRep w' (m.ins l (u ++ [k]) z w.heap.size v) ∧ Keeps m.node w w' ∧ w'.heap.size = w.heap.size + 1 := by
  have hi := h.inited hl (by rw [hs]; simp)
  have k2 := insertValue_c (u := u ++ [k]) (z := z) hv hi hl (by rw [hs]; simp) hz
  rw [show lt l (u ++ [k]) = k by simp [lt]] at k2
  have k2 := Lib.hid k2
  obtain ⟨c0, c1, c2⟩ := h.mid hl hs
  have q := neq_of_eql (tp := 107) (eql_L (h.plain (.inl hl)) (h.plain (.inl hl)) true (by simp))
  have hs' := Lib.hid hs
  clear hs hz hi h
  go_enter Try.func61, Try.ntmps61
  go_wp2_with fail
  refine k2.out.mono ?_
  rintro e w2 ⟨rfl, hR2, hK2, hz2⟩
  have HR2 := Lib.hid hR2; have HZ2 := Lib.hid hz2; clear hR2 hz2
  go_wp2
  go_ret
  exact ⟨rfl, HR2.out.rep, hK2, HZ2.out⟩

/-- The list that an element names is a list (or none). -/
def BM.owned (m : BM) : Prop := ∀ e b, m.E e → m.ow e = some b → m.L b

theorem neq_pt {W : World} {o : Option Nat} (h : (binOp .eql 107 (pt o) (.pointer (some ⟨l, 0, none⟩))).run Try.prog W = .ok (.bool false) W) :
    (binOp .neq 107 (pt o) (.pointer (some ⟨l, 0, none⟩))).run Try.prog W = .ok (.bool true) W := neq_of_eql h

theorem insertBefore_no {v : Value} {k : Nat} (h : BRep w m) (ho : m.owned) (hl : m.L l) (hk : m.E k) (hne : ¬ m.ow k = some l) :
    Calls Try.prog 59 #[.pointer (some ⟨l, 0, none⟩), v, .pointer (some ⟨k, 0, none⟩)] w fun r w' => r = .returned (.pointer none) ∧ w = w' := by
  have q := neq_pt (h.eql_own hk hl (ho k · hk) false (by simpa using hne) w (fun _ => h.plain))
  have c2 := h.owc hk
  clear hne
  unfold pt at q c2
  generalize Option.map (fun b => (⟨b, 0, none⟩ : Addr)) (m.ow k) = o at q c2
  go_enter Try.func59, Try.ntmps59
  go_wp2
  go_ret
  exact ⟨rfl, rfl⟩

theorem insertAfter_no {v : Value} {k : Nat} (h : BRep w m) (ho : m.owned) (hl : m.L l) (hk : m.E k) (hne : ¬ m.ow k = some l) :
    Calls Try.prog 61 #[.pointer (some ⟨l, 0, none⟩), v, .pointer (some ⟨k, 0, none⟩)] w fun r w' => r = .returned (.pointer none) ∧ w = w' := by
  have q := neq_pt (h.eql_own hk hl (ho k · hk) false (by simpa using hne) w (fun _ => h.plain))
  have c2 := h.owc hk
  clear hne
  unfold pt at q c2
  generalize Option.map (fun b => (⟨b, 0, none⟩ : Addr)) (m.ow k) = o at q c2
  go_enter Try.func61, Try.ntmps61
  go_wp2
  go_ret
  exact ⟨rfl, rfl⟩

theorem remove_no {k : Nat} (h : BRep w m) (ho : m.owned) (hl : m.L l) (hk : m.E k) (hne : ¬ m.ow k = some l) :
    Calls Try.prog 67 #[.pointer (some ⟨l, 0, none⟩), .pointer (some ⟨k, 0, none⟩)] w fun r w' => r = .returned (m.vl k) ∧ w = w' := by
  have q := h.eql_own hk hl (ho k · hk) false (by simpa using hne) w (fun _ => h.plain)
  have c2 := h.owc hk
  have c3 := h.vlc hk
  clear hne
  unfold pt at q c2
  generalize Option.map (fun b => (⟨b, 0, none⟩ : Addr)) (m.ow k) = o at q c2
  go_enter Try.func67, Try.ntmps67
  go_wp2
  go_ret
  exact ⟨rfl, rfl⟩

theorem remove_c {u z : List Nat} {e : Nat} (h : BRep w m) (hl : m.L l) (hs : m.sq l = u ++ e :: z) (hz : (m.sq l).length < 4611686018427387904) :
    Calls Try.prog 67 #[.pointer (some ⟨l, 0, none⟩), .pointer (some ⟨e, 0, none⟩)] w fun r w' =>
      r = .returned (m.vl e) ∧ BRep w' (m.rem l u z e) ∧ Keeps m.node w w' ∧ w'.heap.size = w.heap.size := by
  have hi := h.inited hl (by rw [hs]; simp)
  have c2 := (h.mid hl hs).2.2
  have hE := (h.own hl (e := e) (by rw [hs]; simp)).1
  have q := eql_L (h.plain (.inl hl)) (h.plain (.inl hl)) true (by simp)
  obtain ⟨nx, pv, a, g, hr⟩ := hi
  have hmid := ring_mid (hs ▸ hr)
  have hnode : ∀ x, x = l ∨ x ∈ m.sq l → m.node x := fun x hx => by
    rcases hx with q | q
    · subst q; exact .inl hl
    · exact .inr (g.own l x hl q).1
  have hlt := hnode _ (near_lt (s := m.sq l) (by rw [hs]; intro x hx; simp [hx]) (rfl : lt l u = lt l u))
  have hhd := hnode _ (near_hd (s := m.sq l) (by rw [hs]; intro x hx; simp [hx]) (rfl : hd z l = hd z l))
  have hel : ¬ e = l := fun q => by subst q; exact g.dis e hl hE
  have hnd := g.nodup l hl
  rw [hs] at hnd
  have hnd1 := List.nodup_append.1 hnd
  have n1 : ¬ e = lt l u := fun q => by
    rcases lt_or l u with r | r
    · exact hel (q.trans r)
    · exact hnd1.2.2 _ r e (by simp) q.symm
  have n2 : ¬ e = hd z l := fun q => by
    rcases hd_or l z with r | r
    · exact hel (q.trans r)
    · exact (List.nodup_cons.1 hnd1.2.1).1 (q ▸ r)
  have hln : lnOf m l = ((u ++ e :: z).length : Int) := by simp only [lnOf, hs]
  have key := remove_h (l := l) a hl hE hlt hhd hmid.1 hmid.2 n1 n2 (by rw [hln]; simp; omega) (by simp only [lnOf]; omega)
  have FIN : ∀ w', Heap w' m.L m.E (upd (upd nx (lt l u) (some (hd z l))) e none) (upd (upd pv (hd z l) (some (lt l u))) e none) (upd m.ow e none) m.vl (upd (lnOf m) l (lnOf m l - 1)) → BRep w' (m.rem l u z e) ∧ w'.cell? ⟨e, 3, none⟩ = some (m.vl e) := by
    intro w' hH
    rw [← lnOf_rem m l u z e hs] at hH
    exact ⟨⟨_, _, hH, (g.remove hl hs hr).1⟩, hH.vlc hE⟩
  have KEY := Lib.hid key; have F := Lib.hid FIN
  clear key FIN hln hnd1 hnd hmid hs hz hr hlt hhd
  go_enter Try.func67, Try.ntmps67
  go_wp2_with fail
  refine KEY.out.mono ?_
  rintro e1 w2 ⟨rfl, hR2, hK2, hz2⟩
  obtain ⟨hR3, c3⟩ := F.out _ hR2
  have HR3 := Lib.hid hR3; have HZ2 := Lib.hid hz2; clear hR2 hz2 hR3
  go_wp2
  go_ret
  exact ⟨rfl, HR3.out, hK2, HZ2.out⟩
end
end Bead
end Go.Proofs.Ytidnmanljdadaaa
