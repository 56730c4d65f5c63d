/- The contracts of container/list's functions once more, on the states of the plain model. No code is walked here. -/
import Derived.Test.YtidnmanljdadaaaPlayer
set_option linter.all false
namespace Go.Proofs.Ytidnmanljdadaaa
open Go.RowKit
namespace Bead

/-- A block of the player's own: from B on, of one of four types. -/
def Own (B : Nat) (w : World) (k : Nat) : Prop := B ≤ k ∧ ∃ (c : Array Value) (t : TypeId) (f : Nat × Nat), w.heap[k]? = some (Obj.cells c t f) ∧ (t = 107 ∨ t = 109 ∨ t = 123 ∨ t = 121)
def Touch (B : Nat) (w w' : World) : Prop := Keeps (Own B w) w w'

section
variable {B : Nat} {w w' w'' : World}
theorem Touch.refl (B : Nat) (w : World) : Touch B w w := Keeps.refl _ _
theorem Touch.trans (h : Touch B w w') (k : Touch B w' w'') : Touch B w w'' := by
  refine Keeps.then h k ?_
  intro i hi ho
  apply Classical.byContradiction
  intro hn
  have := h.block i hi hn
  obtain ⟨h1, c, t, f, h2, h3⟩ := ho
  exact hn ⟨h1, c, t, f, this ▸ h2, h3⟩
theorem Touch.alloc (h : Touch B w w') (o : Obj) : Touch B w (w'.alloc o) := Keeps.alloc h o
theorem Touch.drew (h : Touch B w w') : Touch B w w'.drew := Keeps.drew h
theorem Touch.of_below (h : Below w.heap.size w w') : Touch B w w' := ⟨h.os, h.tape, h.output, h.size, fun k hk _ => h.block k hk⟩
theorem Touch.put5 {k : Nat} (h : Touch B w w') (hk : w.heap.size ≤ k) (a : An) : Touch B w (put5 w' k a) := Keeps.put5 h (fun q => by omega) a
theorem Touch.block {k : Nat} {c : Array Value} {t : TypeId} {f : Nat × Nat} (h : Touch B w w') (hk : w.heap[k]? = some (Obj.cells c t f)) (h1 : t ≠ 107) (h2 : t ≠ 109) (h3 : t ≠ 123) (h4 : t ≠ 121) :
    w'.heap[k]? = some (Obj.cells c t f) := by
  refine (Keeps.block h k (Array.getElem?_eq_some_iff.1 hk).1 ?_).trans hk
  rintro ⟨_, c', t', f', h5, h6⟩
  rw [hk] at h5
  simp at h5
  obtain ⟨rfl, rfl, rfl⟩ := h5
  rcases h6 with q | q | q | q
  · exact h1 q
  · exact h2 q
  · exact h3 q
  · exact h4 q
theorem Touch.below (h : Touch B w w') (hB : B ≤ w.heap.size) : Below B w w' := Keeps.below h (fun _ hk _ ho => by have := ho.1; omega) hB
end

section
variable {w w' : World} {B p pl pe N : Nat} {m m' : Md} {b b' : BM} {bl bl' be be' : Nat → Nat}
theorem BRep.ty {w : World} {b : BM} (h : BRep w b) {k : Nat} (hk : b.node k) : ∃ (c : Array Value) (t : TypeId) (f : Nat × Nat), w.heap[k]? = some (Obj.cells c t f) ∧ (t = 107 ∨ t = 109 ∨ t = 123 ∨ t = 121) := by
  obtain ⟨nx, pv, a, _⟩ := h
  rcases hk with q | q
  · exact ⟨_, _, _, a.l k q, .inr (.inr (.inl rfl))⟩
  · exact ⟨_, _, _, a.e k q, .inr (.inr (.inr rfl))⟩
theorem IR.touch (h : IR w B p pl pe N m b bl be) (hk : Keeps b.node w w') : Touch B w w' := hk.mono fun k _ q => ⟨h.base.2.2.2 k q, h.rep.ty q⟩
theorem IR.touch_pe (h : IR w B p pl pe N m b bl be) (hk : Keeps (fun k => k = pe) w w') : Touch B w w' := by
  refine hk.mono fun k _ q => ?_
  subst q
  obtain ⟨c, h1, _⟩ := h.erow
  exact ⟨h.base.2.2.1, c, _, _, h1, .inr (.inl rfl)⟩
theorem IR.touch_pl (h : IR w B p pl pe N m b bl be) (hk : Keeps (fun k => k = pl) w w') : Touch B w w' := by
  refine hk.mono fun k _ q => ?_
  subst q
  obtain ⟨c, h1, _⟩ := h.lrow
  exact ⟨h.base.2.1, c, _, _, h1, .inl rfl⟩

theorem IR.len (h : IR w B p pl pe N m b bl be) {l : Nat} (hl : m.isL l = true) : (b.sq (bl l)).length = (m.seq l).length := by rw [h.rel.sq l hl]; simp
theorem len_le_cnt (hw : WF m) (l : Nat) : (m.seq l).length ≤ m.cnt := by
  have h1 : m.seq l ⊆ List.range m.cnt := by
    intro x hx; simp; exact hw.lt hx
  simpa using (hw.nodup l).length_le_of_subset h1

/-- A new element between u and z. -/
theorem IR.ins (h : IR w B p pl pe N m b bl be) (hw : WF m) {l : Nat} {u z : List Nat} {v : Vl} {x : Value} (hl : m.isL l = true) (hs : m.seq l = u ++ z) (hx : VRep w (canon v) x)
    (hrep : BRep w' (b.ins (bl l) (u.map be) (z.map be) w.heap.size x)) (hk : Keeps b.node w w') :
    IR w' B p pl pe N ((m.make v (some l)).setSeq l (u ++ m.cnt :: z)) (b.ins (bl l) (u.map be) (z.map be) w.heap.size x) bl (upd be m.cnt w.heap.size) := by
  have hN : ¬ b.node w.heap.size := fun q => Nat.lt_irrefl _ (h.rep.lt q)
  refine h.change hk hrep (h.rel.ins hw hN hl hs v x) (fun i _ => rfl) ?_ ?_ ?_
  · intro i _
    simp only [rowE, Md.make, Md.setSeq]
    cases hr : m.ret i with
    | none => rfl
    | some e => simp only [Option.map_some, upd_other _ _ (show ¬ e = m.cnt from fun q => by have := (hw.rlt i e hr).2; omega)]
  · intro e he
    simp only [Md.make, Md.setSeq, BM.ins] at he ⊢
    by_cases q : e = m.cnt
    · subst q; rw [upd_same, upd_same, upd_same]; exact hx.keep (h.vkeep hk)
    · have he' : e < m.cnt := by omega
      rw [upd_other _ _ q, upd_other _ _ q, upd_other _ _ (fun s => hN (by rw [← s]; exact .inr (h.rel.isElem he')))]
      exact (h.vals e he').keep (h.vkeep hk)
  · intro k hk'
    simp only [BM.ins, BM.node] at hk' ⊢
    rcases hk' with q | q | q
    · exact .inl (.inl q)
    · exact .inl (.inr q)
    · exact .inr (by omega)

theorem take_all_put (m : Md) (l e : Nat) : m.put l (m.seq l).length e = m.setSeq l (m.seq l ++ [e]) := by simp [Md.put]
theorem put_zero (m : Md) (l e : Nat) : m.put l 0 e = m.setSeq l (e :: m.seq l) := by simp [Md.put]

theorem pushFront_I (h : IR w B p pl pe N m b bl be) (hw : WF m) {l : Nat} {v : Vl} {x : Value} (hl : m.isL l = true) (hc : m.cnt < 4611686018427387904) (hx : VRep w (canon v) x) :
    Calls Try.prog 56 #[.pointer (some ⟨bl l, 0, none⟩), x] w fun r w' =>
      ∃ b' be', r = .returned (.pointer (some ⟨be' m.cnt, 0, none⟩)) ∧ IR w' B p pl pe N ((m.make v (some l)).put l 0 m.cnt) b' bl be' ∧ Touch B w w' := by
  have hlen := len_le_cnt hw l
  refine (pushFront_c hx.any h.rep (h.rel.isList hl) (by rw [h.len hl]; omega)).mono ?_
  rintro r w' ⟨rfl, hR, hK, _⟩
  rw [h.rel.sq l hl] at hR
  have := h.ins hw (u := []) (z := m.seq l) hl rfl hx hR hK
  refine ⟨_, upd be m.cnt w.heap.size, by rw [upd_same], by rw [put_zero]; exact this, h.touch hK⟩
theorem pushBack_I (h : IR w B p pl pe N m b bl be) (hw : WF m) {l : Nat} {v : Vl} {x : Value} (hl : m.isL l = true) (hc : m.cnt < 4611686018427387904) (hx : VRep w (canon v) x) :
    Calls Try.prog 58 #[.pointer (some ⟨bl l, 0, none⟩), x] w fun r w' =>
      ∃ b' be', r = .returned (.pointer (some ⟨be' m.cnt, 0, none⟩)) ∧ IR w' B p pl pe N ((m.make v (some l)).put l (m.seq l).length m.cnt) b' bl be' ∧ Touch B w w' := by
  have hlen := len_le_cnt hw l
  refine (pushBack_c hx.any h.rep (h.rel.isList hl) (by rw [h.len hl]; omega)).mono ?_
  rintro r w' ⟨rfl, hR, hK, _⟩
  rw [h.rel.sq l hl] at hR
  have := h.ins hw (u := m.seq l) (z := []) hl (by simp) hx hR hK
  have e1 : ((m.make v (some l)).put l (m.seq l).length m.cnt) = (m.make v (some l)).setSeq l (m.seq l ++ [m.cnt]) := take_all_put (m.make v (some l)) l m.cnt
  exact ⟨_, upd be m.cnt w.heap.size, by rw [upd_same], by rw [e1]; exact this, h.touch hK⟩

/-- A list around one of its elements, by the position. -/
theorem split_at {s : List Nat} {k : Nat} (hk : k ∈ s) : s = s.take (s.idxOf k) ++ k :: s.drop (s.idxOf k + 1) := by
  have hlt : s.idxOf k < s.length := List.idxOf_lt_length_of_mem hk
  have : s[s.idxOf k]'hlt = k := List.getElem_idxOf hlt
  conv => lhs; rw [← List.take_append_drop (s.idxOf k) s, List.drop_eq_getElem_cons hlt, this]

theorem insertBefore_I (h : IR w B p pl pe N m b bl be) (hw : WF m) {l k : Nat} {v : Vl} {x : Value} (hl : m.isL l = true) (hk : k ∈ m.seq l) (hc : m.cnt < 4611686018427387904) (hx : VRep w (canon v) x) :
    Calls Try.prog 59 #[.pointer (some ⟨bl l, 0, none⟩), x, .pointer (some ⟨be k, 0, none⟩)] w fun r w' =>
      ∃ b' be', r = .returned (.pointer (some ⟨be' m.cnt, 0, none⟩)) ∧ IR w' B p pl pe N ((m.make v (some l)).put l ((m.seq l).idxOf k + 0) m.cnt) b' bl be' ∧ Touch B w w' := by
  have hlen := len_le_cnt hw l
  have hs := split_at hk
  have hsb : b.sq (bl l) = ((m.seq l).take ((m.seq l).idxOf k)).map be ++ be k :: ((m.seq l).drop ((m.seq l).idxOf k + 1)).map be := by
    rw [h.rel.sq l hl]; conv => lhs; rw [hs]
    simp
  refine (insertBefore_c hx.any h.rep (h.rel.isList hl) hsb (by rw [h.len hl]; omega)).mono ?_
  rintro r w' ⟨rfl, hR, hK, _⟩
  have hdrop : (m.seq l).drop ((m.seq l).idxOf k) = k :: (m.seq l).drop ((m.seq l).idxOf k + 1) := by
    have hlt := List.idxOf_lt_length_of_mem hk
    rw [List.drop_eq_getElem_cons hlt, List.getElem_idxOf hlt]
  have := h.ins hw (u := (m.seq l).take ((m.seq l).idxOf k)) (z := (m.seq l).drop ((m.seq l).idxOf k)) hl (List.take_append_drop _ _).symm hx (by rw [hdrop, List.map_cons]; exact hR) hK
  exact ⟨_, upd be m.cnt w.heap.size, by rw [upd_same], this, h.touch hK⟩
theorem insertAfter_I (h : IR w B p pl pe N m b bl be) (hw : WF m) {l k : Nat} {v : Vl} {x : Value} (hl : m.isL l = true) (hk : k ∈ m.seq l) (hc : m.cnt < 4611686018427387904) (hx : VRep w (canon v) x) :
    Calls Try.prog 61 #[.pointer (some ⟨bl l, 0, none⟩), x, .pointer (some ⟨be k, 0, none⟩)] w fun r w' =>
      ∃ b' be', r = .returned (.pointer (some ⟨be' m.cnt, 0, none⟩)) ∧ IR w' B p pl pe N ((m.make v (some l)).put l ((m.seq l).idxOf k + 1) m.cnt) b' bl be' ∧ Touch B w w' := by
  have hlen := len_le_cnt hw l
  have hs := split_at hk
  have hsb : b.sq (bl l) = ((m.seq l).take ((m.seq l).idxOf k)).map be ++ be k :: ((m.seq l).drop ((m.seq l).idxOf k + 1)).map be := by
    rw [h.rel.sq l hl]; conv => lhs; rw [hs]
    simp
  refine (insertAfter_c hx.any h.rep (h.rel.isList hl) hsb (by rw [h.len hl]; omega)).mono ?_
  rintro r w' ⟨rfl, hR, hK, _⟩
  have htake : (m.seq l).take ((m.seq l).idxOf k + 1) = (m.seq l).take ((m.seq l).idxOf k) ++ [k] := by
    have hlt := List.idxOf_lt_length_of_mem hk
    rw [List.take_succ_eq_append_getElem hlt, List.getElem_idxOf hlt]
  have := h.ins hw (u := (m.seq l).take ((m.seq l).idxOf k + 1)) (z := (m.seq l).drop ((m.seq l).idxOf k + 1)) hl (List.take_append_drop _ _).symm hx (by rw [htake, List.map_append]; exact hR) hK
  exact ⟨_, upd be m.cnt w.heap.size, by rw [upd_same], this, h.touch hK⟩
theorem IR.not_own (h : IR w B p pl pe N m b bl be) (hw : WF m) {l k : Nat} (hl : m.isL l = true) (hkc : k < m.cnt) (hst : m.clr k ≠ some l) (hk : k ∉ m.seq l) : ¬ b.ow (be k) = some (bl l) := fun q => hk ((h.rel.own_iff hw hl hkc hst).1 q)
theorem insertBefore_N (h : IR w B p pl pe N m b bl be) (hw : WF m) {l k : Nat} {x : Value} (hl : m.isL l = true) (hkc : k < m.cnt) (hst : m.clr k ≠ some l) (hk : k ∉ m.seq l) :
    Calls Try.prog 59 #[.pointer (some ⟨bl l, 0, none⟩), x, .pointer (some ⟨be k, 0, none⟩)] w fun r w' => r = .returned (.pointer none) ∧ w = w' :=
  insertBefore_no h.rep (h.rel.owned hw) (h.rel.isList hl) (h.rel.isElem hkc) (h.not_own hw hl hkc hst hk)
theorem insertAfter_N (h : IR w B p pl pe N m b bl be) (hw : WF m) {l k : Nat} {x : Value} (hl : m.isL l = true) (hkc : k < m.cnt) (hst : m.clr k ≠ some l) (hk : k ∉ m.seq l) :
    Calls Try.prog 61 #[.pointer (some ⟨bl l, 0, none⟩), x, .pointer (some ⟨be k, 0, none⟩)] w fun r w' => r = .returned (.pointer none) ∧ w = w' :=
  insertAfter_no h.rep (h.rel.owned hw) (h.rel.isList hl) (h.rel.isElem hkc) (h.not_own hw hl hkc hst hk)

/-- The elements of a list in another order. -/
theorem IR.setSeq (h : IR w B p pl pe N m b bl be) {l : Nat} {s : List Nat} (hl : m.isL l = true) (hrep : BRep w' (b.setSq (bl l) (s.map be))) (hk : Keeps b.node w w') :
    IR w' B p pl pe N (m.setSeq l s) (b.setSq (bl l) (s.map be)) bl be :=
  h.change hk hrep (h.rel.setSeq hl s) (fun _ _ => rfl) (fun _ _ => rfl) (fun e he => (h.vals e he).keep (h.vkeep hk)) (fun _ q => .inl q)

theorem moved_eq (hw : WF m) {l e : Nat} {u z : List Nat} (hs : m.seq l = u ++ e :: z) (k : Nat) : (m.take l e).put l k e = m.setSeq l ((u ++ z).take k ++ e :: (u ++ z).drop k) := by
  rw [take_put, hs, filter_mid (hs ▸ hw.nodup l)]

/-- Each move: what the list function is to be, with the element e in the list l. -/
theorem move7_I (h : IR w B p pl pe N m b bl be) (hw : WF m) {l e : Nat} (hl : m.isL l = true) (he : e ∈ m.seq l) :
    Calls Try.prog 62 #[.pointer (some ⟨bl l, 0, none⟩), .pointer (some ⟨be e, 0, none⟩)] w fun r w' =>
      r = .returned (.tuple #[]) ∧ (∃ b', IR w' B p pl pe N ((m.take l e).put l 0 e) b' bl be) ∧ Touch B w w' := by
  obtain ⟨u, z, hs⟩ := List.append_of_mem he
  have hsb : b.sq (bl l) = u.map be ++ be e :: z.map be := by rw [h.rel.sq l hl, hs]; simp
  refine (moveToFront_c h.rep (h.rel.isList hl) hsb).mono ?_
  rintro r w' ⟨rfl, hR, hK, _⟩
  have F := h.setSeq (s := e :: (u ++ z)) hl (by rw [List.map_cons, List.map_append]; exact hR) hK
  exact ⟨rfl, ⟨_, by rw [moved_eq hw hs]; exact F⟩, h.touch hK⟩
theorem move8_I (h : IR w B p pl pe N m b bl be) (hw : WF m) {l e : Nat} (hl : m.isL l = true) (he : e ∈ m.seq l) :
    Calls Try.prog 63 #[.pointer (some ⟨bl l, 0, none⟩), .pointer (some ⟨be e, 0, none⟩)] w fun r w' =>
      r = .returned (.tuple #[]) ∧ (∃ b', IR w' B p pl pe N ((m.take l e).put l ((m.take l e).seq l).length e) b' bl be) ∧ Touch B w w' := by
  obtain ⟨u, z, hs⟩ := List.append_of_mem he
  have hsb : b.sq (bl l) = u.map be ++ be e :: z.map be := by rw [h.rel.sq l hl, hs]; simp
  refine (moveToBack_c h.rep (h.rel.isList hl) hsb).mono ?_
  rintro r w' ⟨rfl, hR, hK, _⟩
  have e1 : (m.take l e).seq l = u ++ z := by simp only [Md.take, Md.setSeq, upd_same]; rw [hs, filter_mid (hs ▸ hw.nodup l)]
  have F := h.setSeq (s := u ++ z ++ [e]) hl (by rw [List.map_append, List.map_append]; exact hR) hK
  exact ⟨rfl, ⟨_, by rw [moved_eq hw hs, e1, List.take_length, List.drop_length]; exact F⟩, h.touch hK⟩
theorem taken (hw : WF m) {l e k : Nat} (hk : k ∈ m.seq l) (hne : ¬ k = e) : k ∈ (m.take l e).seq l := by
  simp only [Md.take, Md.setSeq, upd_same]; simp [hk, hne]
theorem move9_I (h : IR w B p pl pe N m b bl be) (hw : WF m) {l e k : Nat} (hl : m.isL l = true) (he : e ∈ m.seq l) (hk : k ∈ m.seq l) (hne : ¬ k = e) :
    Calls Try.prog 64 #[.pointer (some ⟨bl l, 0, none⟩), .pointer (some ⟨be e, 0, none⟩), .pointer (some ⟨be k, 0, none⟩)] w fun r w' =>
      r = .returned (.tuple #[]) ∧ (∃ b', IR w' B p pl pe N ((m.take l e).put l (((m.take l e).seq l).idxOf k + 0) e) b' bl be) ∧ Touch B w w' := by
  obtain ⟨u, z, hs⟩ := List.append_of_mem he
  have hsb : b.sq (bl l) = u.map be ++ be e :: z.map be := by rw [h.rel.sq l hl, hs]; simp
  have e1 : (m.take l e).seq l = u ++ z := by simp only [Md.take, Md.setSeq, upd_same]; rw [hs, filter_mid (hs ▸ hw.nodup l)]
  have hk' : k ∈ u ++ z := e1 ▸ taken hw hk hne
  have hsp := split_at hk'
  refine (moveBefore_c (u' := ((u ++ z).take ((u ++ z).idxOf k)).map be) (z' := ((u ++ z).drop ((u ++ z).idxOf k + 1)).map be) (k := be k) h.rep (h.rel.isList hl) hsb (by
    rw [← List.map_append]; conv => lhs; rw [hsp]
    simp)).mono ?_
  rintro r w' ⟨rfl, hR, hK, _⟩
  have hdrop : (u ++ z).drop ((u ++ z).idxOf k) = k :: (u ++ z).drop ((u ++ z).idxOf k + 1) := by
    have hlt := List.idxOf_lt_length_of_mem hk'
    rw [List.drop_eq_getElem_cons hlt, List.getElem_idxOf hlt]
  have F := h.setSeq (s := (u ++ z).take ((u ++ z).idxOf k) ++ e :: (u ++ z).drop ((u ++ z).idxOf k)) hl (by rw [hdrop, List.map_append, List.map_cons, List.map_cons]; exact hR) hK
  exact ⟨rfl, ⟨_, by rw [moved_eq hw hs, e1, Nat.add_zero]; exact F⟩, h.touch hK⟩
theorem move10_I (h : IR w B p pl pe N m b bl be) (hw : WF m) {l e k : Nat} (hl : m.isL l = true) (he : e ∈ m.seq l) (hk : k ∈ m.seq l) (hne : ¬ k = e) :
    Calls Try.prog 65 #[.pointer (some ⟨bl l, 0, none⟩), .pointer (some ⟨be e, 0, none⟩), .pointer (some ⟨be k, 0, none⟩)] w fun r w' =>
      r = .returned (.tuple #[]) ∧ (∃ b', IR w' B p pl pe N ((m.take l e).put l (((m.take l e).seq l).idxOf k + 1) e) b' bl be) ∧ Touch B w w' := by
  obtain ⟨u, z, hs⟩ := List.append_of_mem he
  have hsb : b.sq (bl l) = u.map be ++ be e :: z.map be := by rw [h.rel.sq l hl, hs]; simp
  have e1 : (m.take l e).seq l = u ++ z := by simp only [Md.take, Md.setSeq, upd_same]; rw [hs, filter_mid (hs ▸ hw.nodup l)]
  have hk' : k ∈ u ++ z := e1 ▸ taken hw hk hne
  have hsp := split_at hk'
  refine (moveAfter_c (u' := ((u ++ z).take ((u ++ z).idxOf k)).map be) (z' := ((u ++ z).drop ((u ++ z).idxOf k + 1)).map be) (k := be k) h.rep (h.rel.isList hl) hsb (by
    rw [← List.map_append]; conv => lhs; rw [hsp]
    simp)).mono ?_
  rintro r w' ⟨rfl, hR, hK, _⟩
  have htake : (u ++ z).take ((u ++ z).idxOf k + 1) = (u ++ z).take ((u ++ z).idxOf k) ++ [k] := by
    have hlt := List.idxOf_lt_length_of_mem hk'
    rw [List.take_succ_eq_append_getElem hlt, List.getElem_idxOf hlt]
  have F := h.setSeq (s := (u ++ z).take ((u ++ z).idxOf k + 1) ++ e :: (u ++ z).drop ((u ++ z).idxOf k + 1)) hl (by rw [htake, List.map_append, List.map_append, List.map_cons]; simpa using hR) hK
  exact ⟨rfl, ⟨_, by rw [moved_eq hw hs, e1]; exact F⟩, h.touch hK⟩

theorem move7_N (h : IR w B p pl pe N m b bl be) (hw : WF m) {l e : Nat} (hl : m.isL l = true) (hec : e < m.cnt) (hst : m.clr e ≠ some l) (he : e ∉ m.seq l) :
    Calls Try.prog 62 #[.pointer (some ⟨bl l, 0, none⟩), .pointer (some ⟨be e, 0, none⟩)] w fun r w' => r = .returned (.tuple #[]) ∧ w = w' :=
  moveToFront_no h.rep (h.rel.owned hw) (h.rel.isList hl) (h.rel.isElem hec) (h.not_own hw hl hec hst he)
theorem move8_N (h : IR w B p pl pe N m b bl be) (hw : WF m) {l e : Nat} (hl : m.isL l = true) (hec : e < m.cnt) (hst : m.clr e ≠ some l) (he : e ∉ m.seq l) :
    Calls Try.prog 63 #[.pointer (some ⟨bl l, 0, none⟩), .pointer (some ⟨be e, 0, none⟩)] w fun r w' => r = .returned (.tuple #[]) ∧ w = w' :=
  moveToBack_no h.rep (h.rel.owned hw) (h.rel.isList hl) (h.rel.isElem hec) (h.not_own hw hl hec hst he)
theorem IR.beside_no (h : IR w B p pl pe N m b bl be) (hw : WF m) {l e k : Nat} (hl : m.isL l = true) (hec : e < m.cnt) (hkc : k < m.cnt) (hst : m.clr e ≠ some l) (hst' : m.clr k ≠ some l) (hno : ¬ (e ∈ m.seq l ∧ ¬ k = e ∧ k ∈ m.seq l)) :
    ¬ (b.ow (be e) = some (bl l) ∧ ¬ be e = be k ∧ b.ow (be k) = some (bl l)) := by
  rintro ⟨h1, h2, h3⟩
  exact hno ⟨(h.rel.own_iff hw hl hec hst).1 h1, fun q => h2 (by rw [q]), (h.rel.own_iff hw hl hkc hst').1 h3⟩
theorem move9_N (h : IR w B p pl pe N m b bl be) (hw : WF m) {l e k : Nat} (hl : m.isL l = true) (hec : e < m.cnt) (hkc : k < m.cnt) (hst : m.clr e ≠ some l) (hst' : m.clr k ≠ some l) (hno : ¬ (e ∈ m.seq l ∧ ¬ k = e ∧ k ∈ m.seq l)) :
    Calls Try.prog 64 #[.pointer (some ⟨bl l, 0, none⟩), .pointer (some ⟨be e, 0, none⟩), .pointer (some ⟨be k, 0, none⟩)] w fun r w' => r = .returned (.tuple #[]) ∧ w = w' :=
  moveBefore_no h.rep (h.rel.owned hw) (h.rel.isList hl) (h.rel.isElem hec) (h.rel.isElem hkc) (h.beside_no hw hl hec hkc hst hst' hno)
theorem move10_N (h : IR w B p pl pe N m b bl be) (hw : WF m) {l e k : Nat} (hl : m.isL l = true) (hec : e < m.cnt) (hkc : k < m.cnt) (hst : m.clr e ≠ some l) (hst' : m.clr k ≠ some l) (hno : ¬ (e ∈ m.seq l ∧ ¬ k = e ∧ k ∈ m.seq l)) :
    Calls Try.prog 65 #[.pointer (some ⟨bl l, 0, none⟩), .pointer (some ⟨be e, 0, none⟩), .pointer (some ⟨be k, 0, none⟩)] w fun r w' => r = .returned (.tuple #[]) ∧ w = w' :=
  moveAfter_no h.rep (h.rel.owned hw) (h.rel.isList hl) (h.rel.isElem hec) (h.rel.isElem hkc) (h.beside_no hw hl hec hkc hst hst' hno)

theorem remove_I (h : IR w B p pl pe N m b bl be) (hw : WF m) {l e : Nat} (hl : m.isL l = true) (he : e ∈ m.seq l) (hc : m.cnt < 4611686018427387904) :
    Calls Try.prog 67 #[.pointer (some ⟨bl l, 0, none⟩), .pointer (some ⟨be e, 0, none⟩)] w fun r w' =>
      ∃ b' x, r = .returned x ∧ VRep w' (m.val e) x ∧ IR w' B p pl pe N (m.drop l e) b' bl be ∧ Touch B w w' := by
  have hlen := len_le_cnt hw l
  obtain ⟨u, z, hs⟩ := List.append_of_mem he
  have hsb : b.sq (bl l) = u.map be ++ be e :: z.map be := by rw [h.rel.sq l hl, hs]; simp
  refine (remove_c h.rep (h.rel.isList hl) hsb (by rw [h.len hl]; omega)).mono ?_
  rintro r w' ⟨rfl, hR, hK, _⟩
  have hv : ∀ f, f < m.cnt → VRep w' (m.val f) (b.vl (be f)) := fun f hf => (h.vals f hf).keep (h.vkeep hK)
  exact ⟨_, _, rfl, hv e (hw.lt he), h.change hK hR (h.rel.drop hw hl hs) (fun _ _ => rfl) (fun _ _ => rfl) hv (fun _ q => .inl q), h.touch hK⟩
theorem remove_N (h : IR w B p pl pe N m b bl be) (hw : WF m) {l e : Nat} (hl : m.isL l = true) (hec : e < m.cnt) (hst : m.clr e ≠ some l) (he : e ∉ m.seq l) :
    Calls Try.prog 67 #[.pointer (some ⟨bl l, 0, none⟩), .pointer (some ⟨be e, 0, none⟩)] w fun r w' => ∃ x, r = .returned x ∧ VRep w' (m.val e) x ∧ w = w' :=
  (remove_no h.rep (h.rel.owned hw) (h.rel.isList hl) (h.rel.isElem hec) (h.not_own hw hl hec hst he)).mono fun r w' ⟨h1, h2⟩ => ⟨_, h1, h2 ▸ h.vals e hec, h2⟩

theorem IR.any (h : IR w B p pl pe N m b bl be) : ∀ k, b.E k → IsAny (b.vl k) := fun k hk => by
  obtain ⟨e, he, rfl⟩ := (h.rel.E k).1 hk
  exact (h.vals e he).any

theorem getD_map {xs : List Nat} {be : Nat → Nat} {i : Nat} (hi : i < xs.length) : (xs.map be).getD i 0 = be (xs.getD i 0) := by
  simp [List.getD_eq_getElem?_getD, List.getElem?_map, List.getElem?_eq_getElem hi]

theorem pushBackList_I (h : IR w B p pl pe N m b bl be) (hw : WF m) {l o : Nat} (hl : m.isL l = true) (ho : m.isL o = true) (hc : m.cnt < 2305843009213693952) :
    Calls Try.prog 68 #[.pointer (some ⟨bl l, 0, none⟩), .pointer (some ⟨bl o, 0, none⟩)] w fun r w' =>
      r = .returned (.tuple #[]) ∧ (∃ b' be', IR w' B p pl pe N ((m.copy l (m.seq o)).setSeq l (m.seq l ++ List.range' m.cnt (m.seq o).length)) b' bl be') ∧ Touch B w w' := by
  have h1 := len_le_cnt hw l
  have h2 := len_le_cnt hw o
  refine (pushBackList_c h.rep (h.rel.isList hl) (h.rel.isList ho) h.any (by rw [h.len hl, h.len ho]; omega)).mono ?_
  rintro r w' ⟨rfl, hR, hK, hz⟩
  rw [h.rel.sq o ho] at hR
  have hN : ∀ k, b.node k → k < w.heap.size := fun k q => h.rep.lt q
  refine ⟨rfl, ⟨b.app (bl l) w.heap.size ((m.seq o).map be), beBack be m.cnt w.heap.size (m.seq o).length, ?_⟩, h.touch hK⟩
  refine h.change hK hR (h.rel.app hw hN hl ((m.seq o).map be) (by simp)) (fun _ _ => rfl) ?_ ?_ ?_
  · intro i _
    simp only [rowE, Md.copy, Md.setSeq]
    cases hr : m.ret i with
    | none => rfl
    | some e =>
      have := (hw.rlt i e hr).2
      simp only [Option.map_some, beBack]; rw [if_neg (by omega)]
  · intro e he
    simp only [Md.copy, Md.setSeq] at he ⊢
    by_cases q : e < m.cnt
    · have hlt := hN _ (.inr (h.rel.isElem q))
      rw [if_neg (by omega)]
      have e1 : beBack be m.cnt w.heap.size (m.seq o).length e = be e := by unfold beBack; rw [if_neg (by omega)]
      rw [e1, app_vl _ hlt]
      exact (h.vals e q).keep (h.vkeep hK)
    · rw [if_pos (by omega)]
      have e1 : beBack be m.cnt w.heap.size (m.seq o).length e = w.heap.size + (e - m.cnt) := by unfold beBack; rw [if_pos (by omega)]
      rw [e1]
      simp only [BM.app, List.length_map]
      rw [if_pos (by omega), Nat.add_sub_cancel_left, getD_map (by omega)]
      have hin : (m.seq o).getD (e - m.cnt) 0 ∈ m.seq o := by
        rw [List.getD_eq_getElem?_getD, List.getElem?_eq_getElem (show e - m.cnt < (m.seq o).length by omega)]; simp
      exact (h.vals _ (hw.lt hin)).keep (h.vkeep hK)
  · intro k hk'
    simp only [BM.app, BM.node] at hk' ⊢
    rcases hk' with q | q | q
    · exact .inl (.inl q)
    · exact .inl (.inr q)
    · exact .inr q.1
theorem pushFrontList_I (h : IR w B p pl pe N m b bl be) (hw : WF m) {l o : Nat} (hl : m.isL l = true) (ho : m.isL o = true) (hc : m.cnt < 2305843009213693952) :
    Calls Try.prog 69 #[.pointer (some ⟨bl l, 0, none⟩), .pointer (some ⟨bl o, 0, none⟩)] w fun r w' =>
      r = .returned (.tuple #[]) ∧ (∃ b' be', IR w' B p pl pe N ((m.copy l (m.seq o)).setSeq l (List.range' m.cnt (m.seq o).length ++ m.seq l)) b' bl be') ∧ Touch B w w' := by
  have h1 := len_le_cnt hw l
  have h2 := len_le_cnt hw o
  refine (pushFrontList_c h.rep (h.rel.isList hl) (h.rel.isList ho) h.any (by rw [h.len hl, h.len ho]; omega)).mono ?_
  rintro r w' ⟨rfl, hR, hK, hz⟩
  rw [h.rel.sq o ho] at hR
  have hN : ∀ k, b.node k → k < w.heap.size := fun k q => h.rep.lt q
  refine ⟨rfl, ⟨b.pre (bl l) w.heap.size ((m.seq o).map be).reverse, beFront be m.cnt w.heap.size (m.seq o).length, ?_⟩, h.touch hK⟩
  refine h.change hK hR (h.rel.pre hw hN hl ((m.seq o).map be).reverse (by simp)) (fun _ _ => rfl) ?_ ?_ ?_
  · intro i _
    simp only [rowE, Md.copy, Md.setSeq]
    cases hr : m.ret i with
    | none => rfl
    | some e =>
      have := (hw.rlt i e hr).2
      simp only [Option.map_some, beFront]; rw [if_neg (by omega)]
  · intro e he
    simp only [Md.copy, Md.setSeq] at he ⊢
    by_cases q : e < m.cnt
    · have hlt := hN _ (.inr (h.rel.isElem q))
      rw [if_neg (by omega)]
      have e1 : beFront be m.cnt w.heap.size (m.seq o).length e = be e := by unfold beFront; rw [if_neg (by omega)]
      rw [e1, pre_vl _ hlt]
      exact (h.vals e q).keep (h.vkeep hK)
    · rw [if_pos (by omega)]
      have e1 : beFront be m.cnt w.heap.size (m.seq o).length e = w.heap.size + ((m.seq o).length - 1 - (e - m.cnt)) := by unfold beFront; rw [if_pos (by omega)]
      rw [e1]
      simp only [BM.pre, List.length_reverse, List.length_map]
      rw [if_pos (by omega), Nat.add_sub_cancel_left]
      have e2 : ((m.seq o).map be).reverse.getD ((m.seq o).length - 1 - (e - m.cnt)) 0 = be ((m.seq o).getD (e - m.cnt) 0) := by
        rw [← getD_map (xs := m.seq o) (be := be) (show e - m.cnt < (m.seq o).length by omega), List.getD_eq_getElem?_getD, List.getD_eq_getElem?_getD, List.getElem?_reverse (by simp; omega)]
        congr 2; simp; omega
      rw [e2]
      have hin : (m.seq o).getD (e - m.cnt) 0 ∈ m.seq o := by
        rw [List.getD_eq_getElem?_getD, List.getElem?_eq_getElem (show e - m.cnt < (m.seq o).length by omega)]; simp
      exact (h.vals _ (hw.lt hin)).keep (h.vkeep hK)
  · intro k hk'
    simp only [BM.pre, BM.node] at hk' ⊢
    rcases hk' with q | q | q
    · exact .inl (.inl q)
    · exact .inl (.inr q)
    · exact .inr q.1

theorem init_I (h : IR w B p pl pe N m b bl be) (hw : WF m) {l : Nat} (hl : m.isL l = true) :
    Calls Try.prog 70 #[.pointer (some ⟨bl l, 0, none⟩)] w fun r w' =>
      r = .returned (.pointer (some ⟨bl l, 0, none⟩)) ∧ (∃ b', IR w' B p pl pe N (m.clear l) b' bl be) ∧ Touch B w w' := by
  refine (init_c h.rep (h.rel.isList hl)).mono ?_
  rintro r w' ⟨rfl, hR, hK, _⟩
  exact ⟨rfl, ⟨_, h.change hK hR.rep (h.rel.clear hw hl) (fun _ _ => rfl) (fun _ _ => rfl) (fun e he => (h.vals e he).keep (h.vkeep hK)) (fun _ q => .inl q)⟩, h.touch hK⟩

theorem front_I (h : IR w B p pl pe N m b bl be) {l : Nat} (hl : m.isL l = true) :
    Calls Try.prog 72 #[.pointer (some ⟨bl l, 0, none⟩)] w fun r w' => r = .returned (pt ((m.seq l).head?.map be)) ∧ w = w' :=
  (front_c h.rep (h.rel.isList hl)).mono fun r w' ⟨h1, h2⟩ => ⟨by rw [h1, h.rel.sq l hl]; simp, h2⟩
theorem back_I (h : IR w B p pl pe N m b bl be) {l : Nat} (hl : m.isL l = true) :
    Calls Try.prog 73 #[.pointer (some ⟨bl l, 0, none⟩)] w fun r w' => r = .returned (pt ((m.seq l).getLast?.map be)) ∧ w = w' :=
  (back_c h.rep (h.rel.isList hl)).mono fun r w' ⟨h1, h2⟩ => ⟨by rw [h1, h.rel.sq l hl]; simp, h2⟩
theorem len_I (h : IR w B p pl pe N m b bl be) {l : Nat} (hl : m.isL l = true) :
    Calls Try.prog 74 #[.pointer (some ⟨bl l, 0, none⟩)] w fun r w' => r = .returned (.int .i64 (m.seq l).length) ∧ w = w' :=
  (len_c h.rep (h.rel.isList hl)).mono fun r w' ⟨h1, h2⟩ => ⟨by rw [h1, h.len hl], h2⟩

theorem next_I (h : IR w B p pl pe N m b bl be) (hw : WF m) {e : Nat} (hec : e < m.cnt) (hst : m.clr e = none) :
    Calls Try.prog 75 #[.pointer (some ⟨be e, 0, none⟩)] w fun r w' => r = .returned (pt ((m.next e).map be)) ∧ w = w' := by
  cases hi : m.inn e with
  | none =>
    have ho : b.ow (be e) = none := by rw [h.rel.ow e hec]; simp [Md.own, hi, hst]
    refine (next_none h.rep (h.rel.isElem hec) ho).mono ?_
    rintro r w' ⟨rfl, rfl⟩
    simp [Md.next, hi, pt_none]
  | some l =>
    have he := (hw.mem l e).2 hi
    have hl := hw.isL_of_mem he
    have hs := split_at he
    have hsb : b.sq (bl l) = ((m.seq l).take ((m.seq l).idxOf e)).map be ++ be e :: ((m.seq l).drop ((m.seq l).idxOf e + 1)).map be := by
      rw [h.rel.sq l hl]; conv => lhs; rw [hs]
      simp
    refine (next_c h.rep (h.rel.isList hl) hsb).mono ?_
    rintro r w' ⟨rfl, rfl⟩
    refine ⟨?_, rfl⟩
    simp only [Md.next, hi, List.head?_map, List.head?_drop]
theorem prev_I (h : IR w B p pl pe N m b bl be) (hw : WF m) {e : Nat} (hec : e < m.cnt) (hst : m.clr e = none) :
    Calls Try.prog 76 #[.pointer (some ⟨be e, 0, none⟩)] w fun r w' => r = .returned (pt ((m.prev e).map be)) ∧ w = w' := by
  cases hi : m.inn e with
  | none =>
    have ho : b.ow (be e) = none := by rw [h.rel.ow e hec]; simp [Md.own, hi, hst]
    refine (prev_none h.rep (h.rel.isElem hec) ho).mono ?_
    rintro r w' ⟨rfl, rfl⟩
    simp [Md.prev, hi, pt_none]
  | some l =>
    have he := (hw.mem l e).2 hi
    have hl := hw.isL_of_mem he
    have hs := split_at he
    have hsb : b.sq (bl l) = ((m.seq l).take ((m.seq l).idxOf e)).map be ++ be e :: ((m.seq l).drop ((m.seq l).idxOf e + 1)).map be := by
      rw [h.rel.sq l hl]; conv => lhs; rw [hs]
      simp
    refine (prev_c h.rep (h.rel.isList hl) hsb).mono ?_
    rintro r w' ⟨rfl, rfl⟩
    refine ⟨?_, rfl⟩
    have hlt := List.idxOf_lt_length_of_mem he
    simp only [Md.prev, hi, List.getLast?_map]
    congr 2
    by_cases q : (m.seq l).idxOf e = 0
    · rw [if_pos q, q]; rfl
    · rw [if_neg q, List.getLast?_take, if_neg q, List.getElem?_eq_getElem (show (m.seq l).idxOf e - 1 < (m.seq l).length by omega)]; rfl
end
end Bead
end Go.Proofs.Ytidnmanljdadaaa
