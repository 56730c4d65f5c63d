/- Plain laws: one run of the model follows another: a whole call. -/
import Derived.Test.YtdkahhocapepeaaSim2
set_option linter.all false
namespace Go.Proofs.Ytdkahhocapepeaa
namespace Bead

structure CSim (rev : Bool) (V : Vl → Vl → Prop) (r l : Nat → Nat) (c c' : Cl) : Prop where
  op : c'.op = mop rev c.op
  list : 3 ≤ c.op → c.op ≤ 17 → 0 ≤ c.list → c'.list = (l c.list.toNat : Nat)
  other : c.op = 12 ∨ c.op = 13 → 0 ≤ c.other → c'.other = (l c.other.toNat : Nat)
  elem : (7 ≤ c.op ∧ c.op ≤ 11) ∨ 18 ≤ c.op → 0 ≤ c.elem → c'.elem = (r c.elem.toNat : Nat)
  mark : c.op = 5 ∨ c.op = 6 ∨ c.op = 9 ∨ c.op = 10 → 0 ≤ c.mark → c'.mark = (r c.mark.toNat : Nat)
  val : c.op = 2 ∨ c.op = 3 ∨ c.op = 4 ∨ c.op = 5 ∨ c.op = 6 ∨ c.op = 21 → V (canon c.v) (canon c'.v)
def ASim (V : Vl → Vl → Prop) (r : Nat → Nat) (op : Int) (a a' : An) : Prop :=
  a'.n = a.n ∧ ((a.elem = -1 ∧ a'.elem = -1) ∨ ∃ i : Nat, a.elem = (i : Nat) ∧ a'.elem = (r i : Nat)) ∧ (if op = 11 ∨ op = 20 then V a.v a'.v else a.v = Vl.zero ∧ a'.v = Vl.zero)
theorem ASim.no {V : Vl → Vl → Prop} {r : Nat → Nat} {op : Int} (h : ¬ (op = 11 ∨ op = 20)) : ASim V r op An.no An.no := ⟨rfl, .inl ⟨rfl, rfl⟩, by rw [if_neg h]; exact ⟨rfl, rfl⟩⟩

section
variable (m : Md) {c : Cl}
theorem step_3 (h : c.op = 3) : m.step c = ((m.grow.make c.v (some c.list.toNat)).put c.list.toNat 0 m.cnt).answer m.len (some m.cnt) := by simp [Md.step, Md.change, h, Md.grow]
theorem step_4 (h : c.op = 4) : m.step c = ((m.grow.make c.v (some c.list.toNat)).put c.list.toNat (m.seq c.list.toNat).length m.cnt).answer m.len (some m.cnt) := by simp [Md.step, Md.change, h, Md.grow]
theorem step_5 (h : c.op = 5) : m.step c = m.grow.insert m.len c 0 := by simp [Md.step, Md.change, h]
theorem step_6 (h : c.op = 6) : m.step c = m.grow.insert m.len c 1 := by simp [Md.step, Md.change, h]
theorem step_mv (h : c.op = 7 ∨ c.op = 8 ∨ c.op = 9 ∨ c.op = 10) : m.step c = (m.grow.move c, An.no) := by rcases h with h | h | h | h <;> simp [Md.step, Md.change, h]
theorem step_11 (h : c.op = 11) : m.step c = m.grow.remove c := by simp [Md.step, Md.change, h]
theorem step_cp (h : c.op = 12 ∨ c.op = 13) : m.step c = (m.grow.copies c, An.no) := by rcases h with h | h <;> simp [Md.step, Md.change, h]
theorem step_14 (h : c.op = 14) : m.step c = (m.grow.clear c.list.toNat, An.no) := by simp [Md.step, Md.change, h]
theorem step_01 (h : c.op = 0 ∨ c.op = 1) : m.step c = ({ m.grow with isL := upd m.isL m.len true }, An.no) := by rcases h with h | h <;> simp [Md.step, Md.look, h, Md.grow]
theorem step_2 (h : c.op = 2) : m.step c = (m.grow.make c.v none).answer m.len (some m.cnt) := by simp [Md.step, Md.look, h, Md.grow]
theorem step_15 (h : c.op = 15) : m.step c = m.grow.answer m.len (m.seq c.list.toNat).head? := by simp [Md.step, Md.look, h, Md.grow]
theorem step_16 (h : c.op = 16) : m.step c = m.grow.answer m.len (m.seq c.list.toNat).getLast? := by simp [Md.step, Md.look, h, Md.grow]
theorem step_17 (h : c.op = 17) : m.step c = (m.grow, ⟨-1, (m.seq c.list.toNat).length, Vl.zero⟩) := by simp [Md.step, Md.look, h, Md.grow]
theorem step_18 (h : c.op = 18) {e : Nat} (hr : m.ret c.elem.toNat = some e) : m.step c = m.grow.answer m.len (m.next e) := by simp [Md.step, Md.look, h, Md.grow, hr]; rfl
theorem step_19 (h : c.op = 19) {e : Nat} (hr : m.ret c.elem.toNat = some e) : m.step c = m.grow.answer m.len (m.prev e) := by simp [Md.step, Md.look, h, Md.grow, hr]; rfl
theorem step_20 (h : c.op = 20) {e : Nat} (hr : m.ret c.elem.toNat = some e) : m.step c = (m.grow, ⟨-1, 0, m.val e⟩) := by simp [Md.step, Md.look, h, Md.grow, hr]
theorem step_21 (h : c.op = 21) {e : Nat} (hr : m.ret c.elem.toNat = some e) : m.step c = ({ m.grow with val := upd m.val e (canon c.v) }, An.no) := by simp [Md.step, Md.look, h, Md.grow, hr]
end

section
variable {rev : Bool} {V : Vl → Vl → Prop} {r l s : Nat → Nat} {m m' : Md} {c c' : Cl} {most : Nat}
theorem Sim.answer (h : Sim rev V r l s m m') {i : Nat} {o : Option Nat} (ho : ∀ e, o = some e → e < m.cnt) (hi : ∀ j x, m.ret j = some x → r j ≠ r i) {op : Int} (hop : ¬ (op = 11 ∨ op = 20)) :
    Sim rev V r l s (m.answer i o).1 (m'.answer (r i) (o.map s)).1 ∧ ASim V r op (m.answer i o).2 (m'.answer (r i) (o.map s)).2 := by
  cases o with
  | none => exact ⟨h, ASim.no hop⟩
  | some e =>
    have he := ho e rfl
    refine ⟨h.give he hi, ?_⟩
    show ASim V r op (m.num i e) (m'.num (r i) (s e))
    rw [h.num he]
    exact ⟨rfl, .inr ⟨_, rfl, rfl⟩, by rw [if_neg hop]; exact ⟨rfl, rfl⟩⟩

/-- What the step gives: the new map of elements. -/
def Stepped (rev : Bool) (V : Vl → Vl → Prop) (r l s : Nat → Nat) (m m' : Md) (op : Int) (p p' : Md × An) : Prop :=
  ∃ s', Sim rev V r l s' p.1 p'.1 ∧ (∀ e, e < m.cnt → s' e = s e) ∧ (∀ e, m.cnt ≤ e → e < p.1.cnt → m'.cnt ≤ s' e) ∧ p'.1.cnt + m.cnt = p.1.cnt + m'.cnt ∧ ASim V r op p.2 p'.2

theorem answer_cnt (m : Md) (i : Nat) (o : Option Nat) : (m.answer i o).1.cnt = m.cnt := by cases o <;> rfl

theorem Sim.pushed (h : Sim rev V r l s m m') (hr : r m.len = m'.len) (hw : WF m) {k p : Nat} (hk : m.isL k = true) (hp : p ≤ (m.seq k).length) {v v' : Vl} (hv : V (canon v) (canon v')) {op : Int} (hop : ¬ (op = 11 ∨ op = 20)) :
    Stepped rev V r l s m m' op (((m.grow.make v (some k)).put k p m.cnt).answer m.len (some m.cnt)) (((m'.grow.make v' (some (l k))).put (l k) (mpos rev (m.seq k).length p) m'.cnt).answer m'.len (some m'.cnt)) := by
  have h1 := (h.grow hr).ins (k := k) (p := p) hk hp hv
  have hi : ∀ j x, ((m.grow.make v (some k)).put k p m.cnt).ret j = some x → r j ≠ r m.len := fun j x q => by
    have := h.rlt j (hw.rlt j x q).1; rw [hr]; omega
  have h2 := h1.answer (i := m.len) (o := some m.cnt) (fun e q => by simp at q; subst q; exact Nat.lt_succ_self _) hi (op := op) hop
  have e : (some m.cnt).map (upd s m.grow.cnt m'.grow.cnt) = some m'.cnt := by
    show some (upd s m.cnt m'.cnt m.cnt) = _
    rw [upd_same]
  rw [e, hr] at h2
  refine ⟨_, h2.1, fun e he => upd_other _ _ (by show ¬ e = m.cnt; omega), fun e a b => ?_, by rw [answer_cnt, answer_cnt]; show m'.cnt + 1 + m.cnt = m.cnt + 1 + m'.cnt; omega, h2.2⟩
  rw [answer_cnt] at b
  have : e = m.cnt := by have b' : e < m.cnt + 1 := b; omega
  subst this
  show m'.cnt ≤ upd s m.cnt m'.cnt m.cnt
  rw [upd_same]; exact Nat.le_refl _
theorem Stepped.keep {op : Int} {p p' : Md × An} (h : Sim rev V r l s p.1 p'.1) (hc : p.1.cnt = m.cnt) (hc' : p'.1.cnt = m'.cnt) (ha : ASim V r op p.2 p'.2) : Stepped rev V r l s m m' op p p' :=
  ⟨s, h, fun _ _ => rfl, fun e a b => by omega, by omega, ha⟩

theorem Sim.hi (h : Sim rev V r l s m m') (hw : WF m) (hr : r m.len = m'.len) : ∀ j x, m.ret j = some x → r j ≠ r m.len := fun j x q => by
  have := h.rlt j (hw.rlt j x q).1; rw [hr]; omega

theorem Sim.inserted (h : Sim rev V r l s m m') (hw : WF m) (hr : r m.len = m'.len) {k n x b b' : Nat} (hk : m.isL k = true) (hn : c.mark.toNat = n) (hx : m.ret n = some x) (hlc : c.list.toNat = k) (hn' : c'.mark.toNat = r n) (hlc' : c'.list.toNat = l k) (hv : V (canon c.v) (canon c'.v))
    (hb : b ≤ 1) (hb' : b' = if rev then 1 - b else b) {op : Int} (hop : ¬ (op = 11 ∨ op = 20)) : Stepped rev V r l s m m' op (m.grow.insert m.len c b) (m'.grow.insert m'.len c' b') := by
  have hx' : m'.ret (r n) = some (s x) := h.ret n x hx
  have hxc := h.rlo n x hx
  unfold Md.insert
  rw [hn, hn', hlc, hlc']
  show Stepped rev V r l s m m' op (match m.ret n with | none => _ | some k_1 => _) (match m'.ret (r n) with | none => _ | some k_1 => _)
  rw [hx, hx']
  show Stepped rev V r l s m m' op (if x ∈ m.seq k then _ else _) (if s x ∈ m'.seq (l k) then _ else _)
  by_cases q : x ∈ m.seq k
  · rw [if_pos q, if_pos ((h.mem hk hxc).2 q)]
    have hj := List.idxOf_lt_length_of_mem q
    have e : (m'.seq (l k)).idxOf (s x) + b' = mpos rev (m.seq k).length ((m.seq k).idxOf x + b) := by
      rw [h.idx hk (hw.nodup k) q, hb']
      cases rev
      · simp [mpos]
      · simp only [mpos, if_true]; omega
    have := h.pushed hr hw hk (p := (m.seq k).idxOf x + b) (by omega) hv (op := op) hop
    rw [← e] at this
    exact this
  · rw [if_neg q, if_neg (fun z => q ((h.mem hk hxc).1 z))]
    exact Stepped.keep (h.grow hr) rfl rfl (ASim.no hop)

theorem Sim.moved (h : Sim rev V r l s m m') (hw : WF m) (hr : r m.len = m'.len) (hop : c.op = 7 ∨ c.op = 8 ∨ c.op = 9 ∨ c.op = 10) (hop' : c'.op = mop rev c.op) {k n e : Nat} (hk : m.isL k = true) (hn : c.elem.toNat = n) (he : m.ret n = some e) (hlc : c.list.toNat = k) (hn' : c'.elem.toNat = r n) (hlc' : c'.list.toNat = l k)
    (hmk : c.op = 9 ∨ c.op = 10 → ∃ x, m.ret c.mark.toNat = some x ∧ c'.mark.toNat = r c.mark.toNat) : Stepped rev V r l s m m' c.op (m.grow.move c, An.no) (m'.grow.move c', An.no) := by
  have hg := h.grow hr
  have he' : m'.ret (r n) = some (s e) := h.ret n e he
  have hec := h.rlo n e he
  have hno : ASim V r c.op An.no An.no := ASim.no (by omega)
  have hcnt' : (m'.grow.move c').cnt = m'.cnt := by
    unfold Md.move Md.moveTo
    (repeat' split) <;> rfl
  suffices hS : Sim rev V r l s (m.grow.move c) (m'.grow.move c') ∧ (m.grow.move c).cnt = m.cnt from Stepped.keep (p := (m.grow.move c, An.no)) (p' := (m'.grow.move c', An.no)) hS.1 hS.2 hcnt' hno
  have hcnt : (m.grow.move c).cnt = m.cnt := by
    unfold Md.move Md.moveTo
    (repeat' split) <;> rfl
  refine ⟨?_, hcnt⟩
  unfold Md.move
  rw [hn, hn', hlc, hlc']
  show Sim rev V r l s (match m.ret n with | none => _ | some e => _) (match m'.ret (r n) with | none => _ | some e => _)
  rw [he, he']
  show Sim rev V r l s (if e ∈ m.seq k then _ else _) (if s e ∈ m'.seq (l k) then _ else _)
  by_cases q : e ∈ m.seq k
  · rw [if_pos q, if_pos ((h.mem hk hec).2 q)]
    have LW : (((m'.grow.take (l k) (s e)).seq (l k))).length = ((m.seq k).filter fun x => decide (x ≠ e)).length := by
      simp only [Md.take, Md.setSeq, upd_same]
      show ((m'.seq (l k)).filter fun x => decide (x ≠ s e)).length = _
      rw [h.without hk q, dir_length, List.length_map]
    have LV : ((m.grow.take k e).seq k).length = ((m.seq k).filter fun x => decide (x ≠ e)).length := by simp only [Md.take, Md.setSeq, upd_same]; rfl
    have front := hg.mv (k := k) (e := e) (p := 0) hk q (Nat.zero_le _)
    have back := hg.mv (k := k) (e := e) (p := ((m.seq k).filter fun x => decide (x ≠ e)).length) hk q (Nat.le_refl _)
    have e1 : mpos rev ((m.grow.seq k).filter fun x => decide (x ≠ e)).length 0 = if rev then ((m.seq k).filter fun x => decide (x ≠ e)).length else 0 := by cases rev <;> rfl
    have e2 : mpos rev ((m.grow.seq k).filter fun x => decide (x ≠ e)).length ((m.seq k).filter fun x => decide (x ≠ e)).length = if rev then 0 else ((m.seq k).filter fun x => decide (x ≠ e)).length := by cases rev <;> simp [mpos, Md.grow]
    rw [e1] at front
    rw [e2] at back
    rcases hop with o | o | o | o
    · unfold Md.moveTo
      rw [if_pos o]
      cases rev
      · rw [if_pos (by rw [hop', o]; rfl)]; exact front
      · rw [if_neg (by rw [hop', o]; decide), if_pos (by rw [hop', o]; rfl), LW]; exact front
    · unfold Md.moveTo
      rw [if_neg (by omega), if_pos o, LV]
      cases rev
      · rw [if_neg (by rw [hop', o]; decide), if_pos (by rw [hop', o]; rfl), LW]; exact back
      · rw [if_pos (by rw [hop', o]; rfl)]; exact back
    all_goals
      obtain ⟨x, hx, hmk'⟩ := hmk (by omega)
      have hx' : m'.ret (r c.mark.toNat) = some (s x) := h.ret _ x hx
      have hxc := h.rlo _ x hx
      have o' : ¬ c'.op = 7 ∧ ¬ c'.op = 8 := by rw [hop', o]; cases rev <;> decide
      unfold Md.moveTo
      rw [if_neg (by omega), if_neg (by omega), if_neg o'.1, if_neg o'.2, hmk']
      show Sim rev V r l s (match m.ret c.mark.toNat with | none => _ | some e => _) (match m'.ret (r c.mark.toNat) with | none => _ | some e => _)
      rw [hx, hx']
      show Sim rev V r l s (if x = e ∨ x ∉ m.seq k then _ else _) (if s x = s e ∨ s x ∉ m'.seq (l k) then _ else _)
      by_cases z : x = e ∨ x ∉ m.seq k
      · rw [if_pos z, if_pos (by
          rcases z with z | z
          · exact .inl (by rw [z])
          · exact .inr (fun y => z ((h.mem hk hxc).1 y)))]
        exact hg
      · have z1 : ¬ x = e := fun y => z (.inl y)
        have z2 : x ∈ m.seq k := Classical.byContradiction (fun y => z (.inr y))
        have zz : ¬ (s x = s e ∨ s x ∉ m'.seq (l k)) := by
          rintro (y | y)
          · exact z1 (h.sinj x e hxc hec y)
          · exact y ((h.mem hk hxc).2 z2)
        rw [if_neg z, if_neg zz]
        have ht := hg.setSeq (k := k) hk (t := (m.seq k).filter fun x => decide (x ≠ e)) (fun y hy => h.lt k y (List.mem_filter.1 hy).1)
        have ht2 : Sim rev V r l s (m.grow.take k e) (m'.grow.take (l k) (s e)) := by
          have := h.without hk q
          unfold Md.take
          show Sim rev V r l s (m.grow.setSeq k ((m.seq k).filter fun x => decide (x ≠ e))) (m'.grow.setSeq (l k) ((m'.seq (l k)).filter fun x => decide (x ≠ s e)))
          rw [this]; exact ht
        have sq : (m.grow.take k e).seq k = (m.seq k).filter fun x => decide (x ≠ e) := by simp only [Md.take, Md.setSeq, upd_same]; rfl
        have xin : x ∈ (m.grow.take k e).seq k := by rw [sq]; simp [z1, z2]
        have ix := ht2.idx (k := k) (e := x) hk (by rw [sq]; exact (hw.nodup k).filter _) xin
        have jl := List.idxOf_lt_length_of_mem xin
        rw [ix, sq]
        rw [sq] at jl
        have b := hg.mv (k := k) (e := e) (p := ((m.seq k).filter fun x => decide (x ≠ e)).idxOf x + if c.op = 10 then 1 else 0) hk q (by
          show _ ≤ ((m.seq k).filter fun x => decide (x ≠ e)).length
          split <;> omega)
        have ee : (if rev = true then ((m.seq k).filter fun x => decide (x ≠ e)).length - 1 - ((m.seq k).filter fun x => decide (x ≠ e)).idxOf x else ((m.seq k).filter fun x => decide (x ≠ e)).idxOf x) + (if c'.op = 10 then 1 else 0) =
            mpos rev ((m.grow.seq k).filter fun x => decide (x ≠ e)).length (((m.seq k).filter fun x => decide (x ≠ e)).idxOf x + if c.op = 10 then 1 else 0) := by
          show _ = mpos rev ((m.seq k).filter fun x => decide (x ≠ e)).length _
          cases rev
          · simp only [Bool.false_eq_true, if_false, mpos, hop', mop]
          · simp only [if_true, mpos, hop', mop, o, mir]
            first
              | (simp only [show ¬ (9 : Int) = 10 by decide, if_false, if_true, show ¬ (9 : Int) = 3 by decide, show ¬ (9 : Int) = 4 by decide, show ¬ (9 : Int) = 5 by decide, show ¬ (9 : Int) = 6 by decide, show ¬ (9 : Int) = 7 by decide, show ¬ (9 : Int) = 8 by decide]; omega)
              | (simp only [if_true, if_false, show ¬ (9 : Int) = 10 by decide, show ¬ (10 : Int) = 9 by decide, show ¬ (10 : Int) = 3 by decide, show ¬ (10 : Int) = 4 by decide, show ¬ (10 : Int) = 5 by decide, show ¬ (10 : Int) = 6 by decide, show ¬ (10 : Int) = 7 by decide, show ¬ (10 : Int) = 8 by decide]; omega)
        rw [ee]
        exact b
  · rw [if_neg q, if_neg (fun z => q ((h.mem hk hec).1 z))]
    exact hg
end
end Bead
end Go.Proofs.Ytdkahhocapepeaa
