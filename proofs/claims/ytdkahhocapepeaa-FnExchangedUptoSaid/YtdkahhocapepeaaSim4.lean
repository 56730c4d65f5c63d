/- Plain laws: one run of the model follows another: whole scripts. -/
import Derived.Test.YtdkahhocapepeaaSim3
set_option linter.all false
namespace Go.Proofs.Ytdkahhocapepeaa
namespace Bead

theorem mop_facts (rev : Bool) {op : Int} (h0 : 0 ≤ op) (h1 : op < 22) : 0 ≤ mop rev op ∧ mop rev op < 22 ∧ ((3 ≤ mop rev op ∧ mop rev op ≤ 17) ↔ (3 ≤ op ∧ op ≤ 17)) ∧ ((mop rev op = 12 ∨ mop rev op = 13) ↔ (op = 12 ∨ op = 13)) ∧ (((7 ≤ mop rev op ∧ mop rev op ≤ 11) ∨ 18 ≤ mop rev op) ↔ ((7 ≤ op ∧ op ≤ 11) ∨ 18 ≤ op)) ∧
    ((mop rev op = 5 ∨ mop rev op = 6 ∨ mop rev op = 9 ∨ mop rev op = 10) ↔ (op = 5 ∨ op = 6 ∨ op = 9 ∨ op = 10)) ∧ ((mop rev op = 18 ∨ mop rev op = 19) ↔ (op = 18 ∨ op = 19)) ∧ ((mop rev op = 20 ∨ mop rev op = 21) ↔ (op = 20 ∨ op = 21)) ∧
    ((mop rev op = 2 ∨ mop rev op = 3 ∨ mop rev op = 4 ∨ mop rev op = 5 ∨ mop rev op = 6) ↔ (op = 2 ∨ op = 3 ∨ op = 4 ∨ op = 5 ∨ op = 6)) ∧ ((mop rev op = 5 ∨ mop rev op = 6) ↔ (op = 5 ∨ op = 6)) := by
  cases rev
  · exact ⟨h0, h1, Iff.rfl, Iff.rfl, Iff.rfl, Iff.rfl, Iff.rfl, Iff.rfl, Iff.rfl, Iff.rfl⟩
  · simp only [mop, if_true, mir]
    (repeat' split) <;> omega

theorem nat_of {n : Int} (h : 0 ≤ n) : ((n.toNat : Nat) : Int) = n := by omega

section
variable {rev : Bool} {V : Vl → Vl → Prop} {r l s : Nat → Nat} {m m' : Md} {c c' : Cl} {most most' : Nat}

theorem Sim.stale (h : Sim rev V r l s m m') (hw : WF m) (hp : Permitted most m c) (hc : CSim rev V r l c c') {n n' : Int} {e : Nat} (hr : m.ret n.toNat = some e) (hn : n' = (r n.toNat : Nat)) (hu : c.op ≤ 17 → 3 ≤ c.op) (hs : m.stale c n = false) : m'.stale c' n' = false := by
  obtain ⟨f0, f1, f2, f3, f4, f5, f6, f7, f8, _⟩ := mop_facts rev hp.lo hp.hi
  rw [← hc.op] at f2 f6 f7
  have hr' : m'.ret n'.toNat = some (s e) := by rw [hn, Int.toNat_natCast]; exact h.ret _ e hr
  have hcl := h.clr e (h.rlo _ e hr)
  unfold Md.stale at hs ⊢
  rw [hr]  at hs
  rw [hr']
  simp only at hs ⊢
  cases hk : m.clr e with
  | none => rw [hk] at hcl; simp only [Option.map_none] at hcl; rw [hcl]
  | some k =>
    rw [hk] at hcl hs
    simp only [Option.map_some] at hcl
    rw [hcl]
    simp only at hs ⊢
    by_cases q : c.op = 20 ∨ c.op = 21
    · rw [if_pos (f7.2 q)]
    · rw [if_neg q] at hs
      rw [if_neg (fun z => q (f7.1 z))]
      simp only [Bool.or_eq_false_iff, decide_eq_false_iff_not] at hs ⊢
      have n18 : ¬ (c'.op = 18 ∨ c'.op = 19) := fun z => by have := f6.1 z; omega
      refine ⟨⟨fun z => n18 (.inl z), fun z => n18 (.inr z)⟩, fun z => ?_⟩
      have hlo := hp.hi
      have h17 : c.op ≤ 17 := by omega
      have h3 := hu h17
      have hL := hp.list h3 h17
      rw [hc.list h3 h17 (hp.list h3 h17).1] at z
      have z1 : l k = l c.list.toNat := by exact_mod_cast z
      have := h.linj k c.list.toNat (hw.clr e k hk).2 hL.2.2 z1
      have := nat_of hL.1
      omega
theorem Sim.perm (h : Sim rev V r l s m m') (hw : WF m) (hw' : WF m') (hp : Permitted most m c) (hc : CSim rev V r l c c') (hroom : ∀ n, m.cnt + n ≤ most → m'.cnt + n ≤ most') : Permitted most' m' c' := by
  obtain ⟨f0, f1, f2, f3, f4, f5, f6, f7, f8, _⟩ := mop_facts rev hp.lo hp.hi
  rw [← hc.op] at f0 f1 f2 f3 f4 f5 f6 f7 f8
  have lst : ∀ (n n' : Int), n' = (l n.toNat : Nat) → m.isL n.toNat = true → 0 ≤ n' ∧ n' < m'.len ∧ m'.isL n'.toNat = true := fun n n' e hn => by
    have q := h.isl _ hn
    have q2 := hw'.isl _ q
    rw [e, Int.toNat_natCast]
    exact ⟨by omega, by omega, q⟩
  have elm : ∀ (n n' : Int), n' = (r n.toNat : Nat) → (0 ≤ n ∧ n < m.len ∧ ∃ e, m.ret n.toNat = some e) → 0 ≤ n' ∧ n' < m'.len ∧ ∃ e, m'.ret n'.toNat = some e := fun n n' e hn => by
    obtain ⟨a, b, x, hx⟩ := hn
    have q2 := h.rlt n.toNat (by omega)
    rw [e, Int.toNat_natCast]
    exact ⟨by omega, by omega, _, h.ret _ x hx⟩
  refine ⟨f0, f1, fun a b => ?_, fun a => ?_, fun a => ?_, fun a => ?_, fun a => ?_, fun a => ?_, fun a => ?_, fun a => ?_⟩
  · obtain ⟨a, b⟩ := f2.1 ⟨a, b⟩
    exact lst _ _ (hc.list a b (hp.list a b).1) (hp.list a b).2.2
  · have a := f3.1 a
    exact lst _ _ (hc.other a (hp.other a).1) (hp.other a).2.2
  · have a := f4.1 a
    exact elm _ _ (hc.elem a (hp.elem a).1) (hp.elem a)
  · have a := f5.1 a
    exact elm _ _ (hc.mark a (hp.mark a).1) (hp.mark a)
  · have a := f4.1 a
    obtain ⟨_, _, e, he⟩ := hp.elem a
    exact h.stale hw hp hc he (hc.elem a (hp.elem a).1) (by omega) (hp.staleE a)
  · have a := f5.1 a
    obtain ⟨_, _, e, he⟩ := hp.mark a
    exact h.stale hw hp hc he (hc.mark a (hp.mark a).1) (by omega) (hp.staleM a)
  · have a := f3.1 a
    rw [hc.other a (hp.other a).1, Int.toNat_natCast, h.len (hp.other a).2.2]
    exact hroom _ (hp.room a)
  · have a := f8.1 a
    exact hroom 1 (hp.space a)

theorem step_len (m : Md) (c : Cl) : (m.step c).1.len = m.len + 1 := by
  have ha : ∀ (m : Md) i o, (m.answer i o).1.len = m.len := fun m i o => by cases o <;> rfl
  have hi : ∀ (m : Md) i b, (m.insert i c b).1.len = m.len := by
    intro m i b
    unfold Md.insert
    split
    · rfl
    · split
      · rw [ha]; rfl
      · rfl
  unfold Md.step
  split
  · unfold Md.change
    (repeat' split)
    · exact ha _ _ _
    · exact ha _ _ _
    · exact hi _ _ _
    · exact hi _ _ _
    · unfold Md.move Md.moveTo
      (repeat' split) <;> rfl
    · unfold Md.remove
      split
      · rfl
      · dsimp only; split <;> rfl
    · rfl
    · rfl
    · rfl
  · unfold Md.look
    (repeat' split)
    all_goals first | exact ha _ _ _ | rfl
theorem step_cnt (m : Md) (c : Cl) : m.cnt ≤ (m.step c).1.cnt := by
  have hi : ∀ (m : Md) i b, m.cnt ≤ (m.insert i c b).1.cnt := by
    intro m i b
    unfold Md.insert
    split
    · exact Nat.le_refl _
    · split
      · rw [answer_cnt]; exact Nat.le_succ _
      · exact Nat.le_refl _
  unfold Md.step
  split
  · unfold Md.change
    (repeat' split)
    · rw [answer_cnt]; exact Nat.le_succ _
    · rw [answer_cnt]; exact Nat.le_succ _
    · exact hi m.grow _ _
    · exact hi m.grow _ _
    · unfold Md.move Md.moveTo
      (repeat' split) <;> exact Nat.le_refl _
    · unfold Md.remove
      split
      · exact Nat.le_refl _
      · dsimp only; split <;> exact Nat.le_refl _
    · exact Nat.le_add_right _ _
    · exact Nat.le_refl _
    · exact Nat.le_refl _
  · unfold Md.look
    (repeat' split)
    all_goals first | exact Nat.le_refl _ | (rw [answer_cnt]; first | exact Nat.le_refl _ | exact Nat.le_succ _)
theorem Sim.rloN (h : Sim rev V r l s m m') (hw : WF m) {e x : Nat} (q : m.next e = some x) : x < m.cnt := next_lt hw q
theorem Sim.rloP (h : Sim rev V r l s m m') (hw : WF m) {e x : Nat} (q : m.prev e = some x) : x < m.cnt := prev_lt hw q

theorem Sim.step (h : Sim rev V r l s m m') (hw : WF m) (hw' : WF m') (hp : Permitted most m c) (hc : CSim rev V r l c c') (hr : r m.len = m'.len) (hl : c.op = 0 ∨ c.op = 1 → l m.len = m'.len) : Stepped rev V r l s m m' c.op (m.step c) (m'.step c') := by
  have hi := h.hi hw hr
  have hg := h.grow hr
  have op' := hc.op
  have L : ∀ (a : 3 ≤ c.op) (b : c.op ≤ 17), c'.list.toNat = l c.list.toNat := fun a b => by rw [hc.list a b (hp.list a b).1, Int.toNat_natCast]
  have E : ((7 ≤ c.op ∧ c.op ≤ 11) ∨ 18 ≤ c.op) → ∃ e, m.ret c.elem.toNat = some e ∧ e < m.cnt ∧ c'.elem.toNat = r c.elem.toNat ∧ m'.ret c'.elem.toNat = some (s e) := fun a => by
    obtain ⟨_, _, e, he⟩ := hp.elem a
    have q : c'.elem.toNat = r c.elem.toNat := by rw [hc.elem a (hp.elem a).1, Int.toNat_natCast]
    exact ⟨e, he, h.rlo _ e he, q, by rw [q]; exact h.ret _ e he⟩
  have hlo := hp.lo
  have hhi := hp.hi
  by_cases o01 : c.op = 0 ∨ c.op = 1
  · have e' : c'.op = 0 ∨ c'.op = 1 := by rw [op']; rcases o01 with q | q <;> (rw [q]; cases rev <;> decide)
    rw [step_01 m o01, step_01 m' e']
    have n1 : m.isL m.len = false := by
      cases q : m.isL m.len with
      | false => rfl
      | true => have := hw.isl _ q; omega
    have n2 : m'.isL m'.len = false := by
      cases q : m'.isL m'.len with
      | false => rfl
      | true => have := hw'.isl _ q; omega
    have := hg.newL (n := m.len) n1 (by rw [hl o01]; exact n2) (hw.emp _ n1) (by rw [hl o01]; exact hw'.emp _ n2)
    rw [hl o01] at this
    exact Stepped.keep this rfl rfl (ASim.no (by omega))
  by_cases o2 : c.op = 2
  · have e' : c'.op = 2 := by rw [op', o2]; cases rev <;> decide
    rw [step_2 m o2, step_2 m' e']
    have h1 := (hg.make (hc.val (by omega)) none).answer (i := m.len) (o := some m.cnt) (fun e q => by simp at q; subst q; exact Nat.lt_succ_self _) hi (op := c.op) (by omega)
    have e : (some m.cnt).map (upd s m.grow.cnt m'.grow.cnt) = some m'.cnt := by
      show some (upd s m.cnt m'.cnt m.cnt) = _
      rw [upd_same]
    rw [e, hr] at h1
    refine ⟨_, h1.1, fun e he => upd_other _ _ (by show ¬ e = m.cnt; omega), fun e a b => ?_, by rw [answer_cnt, answer_cnt]; show m'.cnt + 1 + m.cnt = m.cnt + 1 + m'.cnt; omega, h1.2⟩
    rw [answer_cnt] at b
    have : e = m.cnt := by have b' : e < m.cnt + 1 := b; omega
    subst this
    show m'.cnt ≤ upd s m.cnt m'.cnt m.cnt
    rw [upd_same]; exact Nat.le_refl _
  by_cases o3 : c.op = 3
  · have lc := L (by omega) (by omega)
    have hk := (hp.list (by omega) (by omega)).2.2
    have b := h.pushed hr hw hk (p := 0) (Nat.zero_le _) (hc.val (by omega)) (op := c.op) (by omega)
    rw [step_3 m o3]
    cases rev
    · rw [step_3 m' (by rw [op', o3]; rfl), lc]; exact b
    · rw [step_4 m' (by rw [op', o3]; rfl), lc, h.len hk]; exact b
  by_cases o4 : c.op = 4
  · have lc := L (by omega) (by omega)
    have hk := (hp.list (by omega) (by omega)).2.2
    have b := h.pushed hr hw hk (p := (m.seq c.list.toNat).length) (Nat.le_refl _) (hc.val (by omega)) (op := c.op) (by omega)
    rw [step_4 m o4]
    cases rev
    · rw [step_4 m' (by rw [op', o4]; rfl), lc, h.len hk]; exact b
    · rw [step_3 m' (by rw [op', o4]; rfl), lc]
      have e : mpos true (m.seq c.list.toNat).length (m.seq c.list.toNat).length = 0 := by simp [mpos]
      rw [e] at b; exact b
  by_cases o56 : c.op = 5 ∨ c.op = 6
  · have lc := L (by omega) (by omega)
    have hk := (hp.list (by omega) (by omega)).2.2
    obtain ⟨_, _, x, hx⟩ := hp.mark (by omega)
    have hmk : c'.mark.toNat = r c.mark.toNat := by rw [hc.mark (by omega) (hp.mark (by omega)).1, Int.toNat_natCast]
    have b := fun (b b' : Nat) (hb : b ≤ 1) (hb' : b' = if rev then 1 - b else b) => h.inserted (c := c) (c' := c') hw hr hk rfl hx rfl hmk lc (hc.val (by omega)) hb hb' (op := c.op) (by omega)
    rcases o56 with o | o
    · rw [step_5 m o]
      cases rev
      · rw [step_5 m' (by rw [op', o]; rfl)]; exact b 0 0 (by decide) rfl
      · rw [step_6 m' (by rw [op', o]; rfl)]; exact b 0 1 (by decide) rfl
    · rw [step_6 m o]
      cases rev
      · rw [step_6 m' (by rw [op', o]; rfl)]; exact b 1 1 (by decide) rfl
      · rw [step_5 m' (by rw [op', o]; rfl)]; exact b 1 0 (by decide) rfl
  by_cases omv : c.op = 7 ∨ c.op = 8 ∨ c.op = 9 ∨ c.op = 10
  · have lc := L (by omega) (by omega)
    have hk := (hp.list (by omega) (by omega)).2.2
    obtain ⟨e, he, _, ec, _⟩ := E (by omega)
    have omv' : c'.op = 7 ∨ c'.op = 8 ∨ c'.op = 9 ∨ c'.op = 10 := by rw [op']; rcases omv with q | q | q | q <;> (rw [q]; cases rev <;> decide)
    rw [step_mv m omv, step_mv m' omv']
    exact h.moved hw hr omv op' hk rfl he rfl ec lc (fun q => by
      obtain ⟨_, _, x, hx⟩ := hp.mark (by omega)
      exact ⟨x, hx, by rw [hc.mark (by omega) (hp.mark (by omega)).1, Int.toNat_natCast]⟩)
  by_cases o11 : c.op = 11
  · have lc := L (by omega) (by omega)
    have hk := (hp.list (by omega) (by omega)).2.2
    obtain ⟨e, he, hec, ec, he'⟩ := E (by omega)
    rw [step_11 m o11, step_11 m' (by rw [op', o11]; cases rev <;> decide)]
    unfold Md.remove
    show Stepped rev V r l s m m' c.op (match m.ret c.elem.toNat with | none => _ | some e => _) (match m'.ret c'.elem.toNat with | none => _ | some e => _)
    rw [he, he', lc]
    refine Stepped.keep ?_ ?_ ?_ ⟨rfl, .inl ⟨rfl, rfl⟩, by rw [if_pos (.inl o11)]; exact h.val e hec⟩
    · show Sim rev V r l s (if e ∈ m.seq c.list.toNat then _ else _) (if s e ∈ m'.seq (l c.list.toNat) then _ else _)
      by_cases q : e ∈ m.seq c.list.toNat
      · rw [if_pos q, if_pos ((h.mem hk hec).2 q)]; exact hg.drop hk q
      · rw [if_neg q, if_neg (fun z => q ((h.mem hk hec).1 z))]; exact hg
    · show (if e ∈ m.seq c.list.toNat then _ else _ : Md).cnt = m.cnt
      split <;> rfl
    · show (if s e ∈ m'.seq (l c.list.toNat) then _ else _ : Md).cnt = m'.cnt
      split <;> rfl
  by_cases ocp : c.op = 12 ∨ c.op = 13
  · have lc := L (by omega) (by omega)
    have hk := (hp.list (by omega) (by omega)).2.2
    have ho := (hp.other ocp).2.2
    have oc : c'.other.toNat = l c.other.toNat := by rw [hc.other ocp (hp.other ocp).1, Int.toNat_natCast]
    have ocp' : c'.op = 12 ∨ c'.op = 13 := by rw [op']; rcases ocp with q | q <;> (rw [q]; cases rev <;> decide)
    rw [step_cp m ocp, step_cp m' ocp']
    have h1 := hg.copy (k := c.list.toNat) (xs := m.seq c.other.toNat) (fun x hx => h.lt _ x hx)
    have hso : dir rev ((m.seq c.other.toNat).map s) = m'.seq (l c.other.toNat) := (h.seq _ ho).symm
    rw [hso] at h1
    have h2 := h1.setSeq (k := c.list.toNat) hk (t := if c.op = 12 then m.seq c.list.toNat ++ List.range' m.cnt (m.seq c.other.toNat).length else List.range' m.cnt (m.seq c.other.toNat).length ++ m.seq c.list.toNat) (by
      intro x hx
      have hx2 : x ∈ m.seq c.list.toNat ∨ x ∈ List.range' m.cnt (m.seq c.other.toNat).length := by
        split at hx
        · exact List.mem_append.1 hx
        · exact (List.mem_append.1 hx).symm
      show x < m.cnt + (m.seq c.other.toNat).length
      rcases hx2 with q | q
      · have := h.lt _ x q; omega
      · rw [List.mem_range'_1] at q; exact q.2)
    have mapS : (m.seq c.list.toNat).map (scopy rev s m.cnt m'.cnt (m.seq c.other.toNat).length) = (m.seq c.list.toNat).map s := List.map_congr_left (fun x hx => scopy_old (h.lt _ x hx))
    have ee : dir rev ((if c.op = 12 then m.seq c.list.toNat ++ List.range' m.cnt (m.seq c.other.toNat).length else List.range' m.cnt (m.seq c.other.toNat).length ++ m.seq c.list.toNat).map (scopy rev s m.cnt m'.cnt (m.seq c.other.toNat).length)) =
        (if c'.op = 12 then m'.seq (l c.list.toNat) ++ List.range' m'.cnt (m'.seq (l c.other.toNat)).length else List.range' m'.cnt (m'.seq (l c.other.toNat)).length ++ m'.seq (l c.list.toNat)) := by
      rw [h.len ho, h.seq _ hk]
      have rr := scopy_range (rev := rev) (s := s) m.cnt m'.cnt (m.seq c.other.toNat).length
      have hlr : (m.grow).cnt = m.cnt := rfl
      rcases ocp with o | o
      · rw [if_pos o, List.map_append, mapS]
        cases rev
        · rw [if_pos (by rw [op', o]; rfl)]; simp only [dir, Bool.false_eq_true, if_false] at rr ⊢; rw [rr]
        · rw [if_neg (by rw [op', o]; decide)]; simp only [dir, if_true] at rr ⊢; rw [List.reverse_append, rr]
      · rw [if_neg (by omega), List.map_append, mapS]
        cases rev
        · rw [if_neg (by rw [op', o]; decide)]; simp only [dir, Bool.false_eq_true, if_false] at rr ⊢; rw [rr]
        · rw [if_pos (by rw [op', o]; rfl)]; simp only [dir, if_true] at rr ⊢; rw [List.reverse_append, rr]
    refine ⟨scopy rev s m.cnt m'.cnt (m.seq c.other.toNat).length, ?_, fun e he => scopy_old he, fun e a b => ?_, ?_, ASim.no (by omega)⟩
    · unfold Md.copies
      show Sim rev V r l _ ((m.grow.copy c.list.toNat (m.seq c.other.toNat)).setSeq c.list.toNat _) ((m'.grow.copy c'.list.toNat (m'.seq c'.other.toNat)).setSeq c'.list.toNat _)
      rw [lc, oc]
      show Sim rev V r l _ _ ((m'.grow.copy (l c.list.toNat) (m'.seq (l c.other.toNat))).setSeq (l c.list.toNat) (if c'.op = 12 then m'.seq (l c.list.toNat) ++ List.range' m'.cnt (m'.seq (l c.other.toNat)).length else List.range' m'.cnt (m'.seq (l c.other.toNat)).length ++ m'.seq (l c.list.toNat)))
      rw [← ee]
      exact h2
    · have b' : e < m.cnt + (m.seq c.other.toNat).length := b
      unfold scopy
      rw [if_pos ⟨a, b'⟩]
      split <;> omega
    · show m'.cnt + (m'.seq c'.other.toNat).length + m.cnt = m.cnt + (m.seq c.other.toNat).length + m'.cnt
      rw [oc, h.len ho]; omega
  by_cases o14 : c.op = 14
  · have lc := L (by omega) (by omega)
    have hk := (hp.list (by omega) (by omega)).2.2
    rw [step_14 m o14, step_14 m' (by rw [op', o14]; cases rev <;> decide), lc]
    exact Stepped.keep (hg.clear hk) rfl rfl (ASim.no (by omega))
  by_cases o156 : c.op = 15 ∨ c.op = 16
  · have lc := L (by omega) (by omega)
    have hk := (hp.list (by omega) (by omega)).2.2
    have hd : (dir true ((m.seq c.list.toNat).map s)).head? = ((m.seq c.list.toNat).getLast?).map s ∧ (dir true ((m.seq c.list.toNat).map s)).getLast? = ((m.seq c.list.toNat).head?).map s := by
      simp [dir, List.head?_reverse, List.getLast?_reverse, List.getLast?_map]
    have a1 := hg.answer (i := m.len) (o := (m.seq c.list.toNat).head?) (fun e q => h.lt _ e (List.mem_of_head? q)) hi (op := c.op) (by omega)
    have a2 := hg.answer (i := m.len) (o := (m.seq c.list.toNat).getLast?) (fun e q => h.lt _ e (List.mem_of_getLast? q)) hi (op := c.op) (by omega)
    rw [hr] at a1 a2
    rcases o156 with o | o
    · rw [step_15 m o]
      cases rev
      · rw [step_15 m' (by rw [op', o]; rfl), lc, h.seq _ hk]
        simp only [dir, Bool.false_eq_true, if_false, List.head?_map]
        exact Stepped.keep a1.1 (answer_cnt _ _ _) (answer_cnt _ _ _) a1.2
      · rw [step_16 m' (by rw [op', o]; rfl), lc, h.seq _ hk, hd.2]
        exact Stepped.keep a1.1 (answer_cnt _ _ _) (answer_cnt _ _ _) a1.2
    · rw [step_16 m o]
      cases rev
      · rw [step_16 m' (by rw [op', o]; rfl), lc, h.seq _ hk]
        simp only [dir, Bool.false_eq_true, if_false, List.getLast?_map]
        exact Stepped.keep a2.1 (answer_cnt _ _ _) (answer_cnt _ _ _) a2.2
      · rw [step_15 m' (by rw [op', o]; rfl), lc, h.seq _ hk, hd.1]
        exact Stepped.keep a2.1 (answer_cnt _ _ _) (answer_cnt _ _ _) a2.2
  by_cases o17 : c.op = 17
  · have lc := L (by omega) (by omega)
    have hk := (hp.list (by omega) (by omega)).2.2
    rw [step_17 m o17, step_17 m' (by rw [op', o17]; cases rev <;> decide), lc, h.len hk]
    exact Stepped.keep hg rfl rfl ⟨rfl, .inl ⟨rfl, rfl⟩, by rw [if_neg (by omega)]; exact ⟨rfl, rfl⟩⟩
  obtain ⟨e, he, hec, ec, he'⟩ := E (by omega)
  by_cases o189 : c.op = 18 ∨ c.op = 19
  · have nx : (rev = false → m'.next (s e) = (m.next e).map s ∧ m'.prev (s e) = (m.prev e).map s) ∧ (rev = true → m'.prev (s e) = (m.next e).map s ∧ m'.next (s e) = (m.prev e).map s) := by
      unfold Md.next Md.prev
      rw [h.inn e hec]
      cases hin : m.inn e with
      | none => simp
      | some k =>
        have hm := (hw.mem k e).2 hin
        have hk := hw.isL_of_mem hm
        have ix := h.idx hk (hw.nodup k) hm
        have jl := List.idxOf_lt_length_of_mem hm
        have hlen := h.len hk
        simp only [Option.map_some]
        refine ⟨fun q => ?_, fun q => ?_⟩
        · subst q
          simp only [Bool.false_eq_true, if_false] at ix
          rw [ix]
          have g := fun j (hj : j < (m.seq k).length) => h.get hk hj
          simp only [Bool.false_eq_true, if_false] at g
          constructor
          · by_cases z : (m.seq k).idxOf e + 1 < (m.seq k).length
            · exact g _ z
            · rw [List.getElem?_eq_none (by omega), List.getElem?_eq_none (by omega)]; rfl
          · by_cases z : (m.seq k).idxOf e = 0
            · rw [if_pos z, if_pos z]; rfl
            · rw [if_neg z, if_neg z]; exact g _ (by omega)
        · subst q
          simp only [if_true] at ix
          rw [ix]
          have g := fun j (hj : j < (m.seq k).length) => h.get hk hj
          simp only [if_true] at g
          constructor
          · by_cases z : (m.seq k).idxOf e + 1 < (m.seq k).length
            · rw [if_neg (by omega), ← g _ z]; congr 1
            · rw [if_pos (by omega), List.getElem?_eq_none (by omega)]; rfl
          · by_cases z : (m.seq k).idxOf e = 0
            · rw [if_pos z, List.getElem?_eq_none (by omega)]; rfl
            · rw [if_neg z, ← g _ (by omega)]; congr 1; omega
    have a1 := hg.answer (i := m.len) (o := m.next e) (fun x q => h.rloN hw q) hi (op := c.op) (by omega)
    have a2 := hg.answer (i := m.len) (o := m.prev e) (fun x q => h.rloP hw q) hi (op := c.op) (by omega)
    rw [hr] at a1 a2
    rcases o189 with o | o
    · rw [step_18 m o he]
      cases rev
      · rw [step_18 m' (by rw [op', o]; rfl) he', (nx.1 rfl).1]; exact Stepped.keep a1.1 (answer_cnt _ _ _) (answer_cnt _ _ _) a1.2
      · rw [step_19 m' (by rw [op', o]; rfl) he', (nx.2 rfl).1]; exact Stepped.keep a1.1 (answer_cnt _ _ _) (answer_cnt _ _ _) a1.2
    · rw [step_19 m o he]
      cases rev
      · rw [step_19 m' (by rw [op', o]; rfl) he', (nx.1 rfl).2]; exact Stepped.keep a2.1 (answer_cnt _ _ _) (answer_cnt _ _ _) a2.2
      · rw [step_18 m' (by rw [op', o]; rfl) he', (nx.2 rfl).2]; exact Stepped.keep a2.1 (answer_cnt _ _ _) (answer_cnt _ _ _) a2.2
  by_cases o20 : c.op = 20
  · rw [step_20 m o20 he, step_20 m' (by rw [op', o20]; cases rev <;> decide) he']
    exact Stepped.keep hg rfl rfl ⟨rfl, .inl ⟨rfl, rfl⟩, by rw [if_pos (.inr o20)]; exact h.val e hec⟩
  · have o21 : c.op = 21 := by omega
    rw [step_21 m o21 he, step_21 m' (by rw [op', o21]; cases rev <;> decide) he']
    exact Stepped.keep (hg.setVal hec (hc.val (by omega))) rfl rfl (ASim.no (by omega))

/-- Two scripts, call by call. -/
def CSims (rev : Bool) (V : Vl → Vl → Prop) (r l : Nat → Nat) : List Cl → List Cl → Prop
  | [], [] => True
  | c :: a, c' :: b => CSim rev V r l c c' ∧ CSims rev V r l a b
  | _, _ => False
def ASims (V : Vl → Vl → Prop) (r : Nat → Nat) : List Cl → List An → List An → Prop
  | [], [], [] => True
  | c :: a, x :: p, y :: q => ASim V r c.op x y ∧ ASims V r a p q
  | _, _, _ => False
theorem Sim.lock : ∀ (cs cs' : List Cl) {m m' : Md} {s : Nat → Nat}, Sim rev V r l s m m' → WF m → WF m' → okFrom most m cs = true → CSims rev V r l cs cs' → (∀ j, r (m.len + j) = m'.len + j) → (∀ j, l (m.len + j) = m'.len + j) → (∀ n, m.cnt + n ≤ most → m'.cnt + n ≤ most') →
    okFrom most' m' cs' = true ∧ ASims V r cs (ansFrom m cs) (ansFrom m' cs') ∧ openFrom m' cs' = openFrom m' cs'
  | [], [], _, _, _, _, _, _, _, _, _, _, _ => ⟨rfl, trivial, rfl⟩
  | c :: cs, c' :: cs', m, m', s, h, hw, hw', ho, hc, hr, hl, hroom => by
    simp only [okFrom, Bool.and_eq_true] at ho
    have hp := (permitted_iff _ _ _).1 ho.1
    have hp' := h.perm hw hw' hp hc.1 hroom
    obtain ⟨s', h1, _, _, hcnt, ha⟩ := h.step hw hw' hp hc.1 (by simpa using hr 0) (fun _ => by simpa using hl 0)
    have ls : ∀ (m : Md) (c : Cl), (m.step c).1.len = m.len + 1 := step_len
    have := Sim.lock cs cs' h1 (hw.step hp) (hw'.step hp') ho.2 hc.2 (fun j => by rw [ls, ls]; have := hr (1 + j); rw [show m.len + 1 + j = m.len + (1 + j) by omega, this]; omega)
      (fun j => by rw [ls, ls]; have := hl (1 + j); rw [show m.len + 1 + j = m.len + (1 + j) by omega, this]; omega) (fun n hn => by have h2 := step_cnt m c; have := hroom (n + ((m.step c).1.cnt - m.cnt)) (by omega); omega)
    exact ⟨by simp only [okFrom, Bool.and_eq_true]; exact ⟨(permitted_iff _ _ _).2 hp', this.1⟩, ⟨ha, this.2.1⟩, rfl⟩
  | [], _ :: _, _, _, _, _, _, _, _, hc, _, _, _ => hc.elim
  | _ :: _, [], _, _, _, _, _, _, _, hc, _, _, _ => hc.elim
theorem ASim.eq {op : Int} {a a' : An} (h : ASim Eq id op a a') : a' = a := by
  obtain ⟨h1, h2, h3⟩ := h
  have e1 : a'.elem = a.elem := by
    rcases h2 with ⟨p, q⟩ | ⟨i, p, q⟩
    · rw [p, q]
    · rw [p, q]; rfl
  have e2 : a'.v = a.v := by
    split at h3
    · exact h3.symm
    · rw [h3.1, h3.2]
  cases a; cases a'; simp_all
theorem ASims.eq : ∀ {cs : List Cl} {p q : List An}, ASims Eq id cs p q → q = p
  | [], [], [], _ => rfl
  | _ :: _, _ :: _, _ :: _, h => by rw [h.1.eq, ASims.eq h.2]
  | [], _ :: _, _, h => by simp [ASims] at h
  | [], [], _ :: _, h => by simp [ASims] at h
  | _ :: _, [], _, h => by simp [ASims] at h
  | _ :: _, _ :: _, [], h => by simp [ASims] at h
theorem Sim.init : Sim rev V r l s Md.init Md.init := by
  refine ⟨?_, ?_, ?_, ?_, ?_, ?_, ?_, ?_, ?_, ?_, ?_, ?_, ?_, ?_, ?_⟩ <;> simp [Md.init]
end
end Bead
end Go.Proofs.Ytdkahhocapepeaa
