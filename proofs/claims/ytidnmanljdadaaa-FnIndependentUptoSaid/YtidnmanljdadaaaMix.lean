/- Plain law: two scripts whose calls are mixed. No program is in sight here. -/
import Derived.Test.YtidnmanljdadaaaPlain
set_option linter.all false
namespace Go.Proofs.Ytidnmanljdadaaa
namespace Bead

/-- m' differs from m at most in the elements E and the lists L. -/
structure Away (E L : Nat → Prop) (m m' : Md) : Prop where
  len : m.len ≤ m'.len
  cnt : m.cnt ≤ m'.cnt
  isL : ∀ k, ¬ L k → m'.isL k = m.isL k
  seq : ∀ k, ¬ L k → m'.seq k = m.seq k
  ret : ∀ i, i < m.len → m'.ret i = m.ret i
  inn : ∀ e, e < m.cnt → ¬ E e → m'.inn e = m.inn e
  clr : ∀ e, e < m.cnt → ¬ E e → m'.clr e = m.clr e
  fst : ∀ e, e < m.cnt → ¬ E e → m'.fst e = m.fst e
  val : ∀ e, e < m.cnt → ¬ E e → m'.val e = m.val e
section
variable {E L : Nat → Prop} {m m' : Md}
theorem Away.grow (m : Md) : Away E L m m.grow := ⟨Nat.le_succ _, Nat.le_refl _, fun _ _ => rfl, fun _ _ => rfl, fun _ _ => rfl, fun _ _ _ => rfl, fun _ _ _ => rfl, fun _ _ _ => rfl, fun _ _ _ => rfl⟩
theorem Away.setSeq (h : Away E L m m') {l : Nat} (hl : L l) (s : List Nat) : Away E L m (m'.setSeq l s) :=
  ⟨h.len, h.cnt, h.isL, fun k hk => by simp only [Md.setSeq]; rw [upd_other _ _ (fun q => hk (by rw [q]; exact hl))]; exact h.seq k hk, h.ret, h.inn, h.clr, h.fst, h.val⟩
theorem Away.make (h : Away E L m m') (v : Vl) (o : Option Nat) : Away E L m (m'.make v o) := by
  have hc := h.cnt
  refine ⟨h.len, Nat.le_succ_of_le h.cnt, h.isL, h.seq, h.ret, fun e he hE => ?_, h.clr, h.fst, fun e he hE => ?_⟩
  · simp only [Md.make]; rw [upd_other _ _ (by omega)]; exact h.inn e he hE
  · simp only [Md.make]; rw [upd_other _ _ (by omega)]; exact h.val e he hE
theorem Away.answer (h : Away E L m m') {o : Option Nat} (ho : ∀ e, o = some e → E e ∨ m.cnt ≤ e) : Away E L m (m'.answer m.len o).1 := by
  cases o with
  | none => exact h
  | some x =>
    refine ⟨h.len, h.cnt, h.isL, h.seq, fun i hi => ?_, h.inn, h.clr, fun e he hE => ?_, h.val⟩
    · simp only [Md.answer, Md.give]; rw [upd_other _ _ (by omega)]; exact h.ret i hi
    · simp only [Md.answer, Md.give]
      rw [upd_other _ _ (fun q => by rcases ho x rfl with z | z; exact hE (by rw [q]; exact z); omega)]
      exact h.fst e he hE
theorem Away.copy (h : Away E L m m') (l : Nat) (xs : List Nat) : Away E L m (m'.copy l xs) := by
  have hc := h.cnt
  refine ⟨h.len, Nat.le_trans h.cnt (Nat.le_add_right _ _), h.isL, h.seq, h.ret, fun e he hE => ?_, h.clr, h.fst, fun e he hE => ?_⟩
  · simp only [Md.copy]; rw [if_neg (by omega)]; exact h.inn e he hE
  · simp only [Md.copy]; rw [if_neg (by omega)]; exact h.val e he hE
theorem Away.clear (h : Away E L m m') {l : Nat} (hl : L l) (hE : ∀ e ∈ m'.seq l, E e) : Away E L m (m'.clear l) := by
  refine ⟨h.len, h.cnt, h.isL, fun k hk => ?_, h.ret, fun e he hx => ?_, fun e he hx => ?_, h.fst, h.val⟩
  · simp only [Md.clear]; rw [upd_other _ _ (fun q => hk (by rw [q]; exact hl))]; exact h.seq k hk
  · simp only [Md.clear]; rw [if_neg (fun q => hx (hE e q))]; exact h.inn e he hx
  · simp only [Md.clear]; rw [if_neg (fun q => hx (hE e q))]; exact h.clr e he hx
theorem Away.setInn (h : Away E L m m') {x : Nat} (hx : E x) (o : Option Nat) : Away E L m { m' with inn := upd m'.inn x o } :=
  ⟨h.len, h.cnt, h.isL, h.seq, h.ret, fun e he hE => by simp only; rw [upd_other _ _ (fun q => hE (by rw [q]; exact hx))]; exact h.inn e he hE, h.clr, h.fst, h.val⟩
theorem Away.setVal (h : Away E L m m') {x : Nat} (hx : E x) (v : Vl) : Away E L m { m' with val := upd m'.val x v } :=
  ⟨h.len, h.cnt, h.isL, h.seq, h.ret, h.inn, h.clr, h.fst, fun e he hE => by simp only; rw [upd_other _ _ (fun q => hE (by rw [q]; exact hx))]; exact h.val e he hE⟩

theorem step_away {c : Cl} (hLn : L m.len) (hL : 3 ≤ c.op → c.op ≤ 17 → L c.list.toNat) (hE1 : 3 ≤ c.op → c.op ≤ 17 → ∀ e ∈ m.seq c.list.toNat, E e)
    (hE2 : (7 ≤ c.op ∧ c.op ≤ 11) ∨ 18 ≤ c.op → ∀ e, m.ret c.elem.toNat = some e → E e ∧ (∀ x, m.next e = some x ∨ m.prev e = some x → E x)) : Away E L m (m.step c).1 := by
  have hg : Away E L m m.grow := Away.grow m
  have new : ∀ e, some m.grow.cnt = some e → E e ∨ m.cnt ≤ e := fun e q => by simp at q; subst q; exact .inr (Nat.le_refl _)
  have hi : ∀ b, L c.list.toNat → Away E L m (m.grow.insert m.len c b).1 := by
    intro b hl
    unfold Md.insert
    split
    · exact hg
    · split
      · exact ((hg.make _ _).setSeq hl _).answer new
      · exact hg
  unfold Md.step
  split
  · rename_i hop
    have hl := hL hop.1 (by omega)
    have he := hE1 hop.1 (by omega)
    unfold Md.change
    split
    · exact ((hg.make _ _).setSeq hl _).answer new
    split
    · exact ((hg.make _ _).setSeq hl _).answer new
    split
    · exact hi _ hl
    split
    · exact hi _ hl
    split
    · unfold Md.move Md.moveTo
      (repeat' split)
      all_goals first | exact hg | (rw [take_put]; exact hg.setSeq hl _)
    split
    · unfold Md.remove
      split
      · exact hg
      · rename_i e hr
        dsimp only
        split
        · exact (hg.setSeq hl _).setInn (hE2 (by omega) e hr).1 _
        · exact hg
    split
    · exact (hg.copy _ _).setSeq hl _
    split
    · exact hg.clear hl he
    · exact hg
  · rename_i hop
    unfold Md.look
    split
    · exact ⟨hg.len, hg.cnt, fun k hk => by simp only; rw [upd_other _ _ (fun q => hk (by rw [q]; exact hLn))]; rfl, hg.seq, hg.ret, hg.inn, hg.clr, hg.fst, hg.val⟩
    split
    · exact (hg.make _ _).answer new
    split
    · exact hg.answer (fun e q => .inl (hE1 (by omega) (by omega) e (List.mem_of_head? q)))
    split
    · exact hg.answer (fun e q => .inl (hE1 (by omega) (by omega) e (List.mem_of_getLast? q)))
    split
    · exact hg
    split
    · exact hg
    · rename_i e hr
      split
      · exact hg.answer (fun x q => .inl ((hE2 (by omega) e hr).2 x (.inl q)))
      split
      · exact hg.answer (fun x q => .inl ((hE2 (by omega) e hr).2 x (.inr q)))
      split
      · exact hg
      split
      · exact hg.setVal (hE2 (by omega) e hr).1 _
      · exact hg
end

section
variable {V : Vl → Vl → Prop} {r l s : Nat → Nat} {mb m m' : Md} {E L : Nat → Prop}
/-- What follows a state follows it still where others have been changed. -/
theorem Sim.away (h : Sim false V r l s mb m) (hw : WF mb) (hw' : WF m') (ha : Away E L m m') (hE : ∀ e, e < mb.cnt → ¬ E (s e)) (hL : ∀ k, mb.isL k = true → ¬ L (l k)) : Sim false V r l s mb m' := by
  have hc := ha.cnt
  refine ⟨fun i hi => Nat.lt_of_lt_of_le (h.rlt i hi) ha.len, fun k hk => by rw [ha.isL _ (hL k hk)]; exact h.isl k hk, h.linj, fun e he => Nat.lt_of_lt_of_le (h.slt e he) hc, h.sinj, fun k hk => by rw [ha.seq _ (hL k hk)]; exact h.seq k hk,
    fun i e q => by rw [ha.ret _ (h.rlt i (hw.rlt i e q).1)]; exact h.ret i e q, fun e he => by rw [ha.inn _ (h.slt e he) (hE e he)]; exact h.inn e he, fun e he => by rw [ha.clr _ (h.slt e he) (hE e he)]; exact h.clr e he,
    fun e he => by rw [ha.fst _ (h.slt e he) (hE e he)]; exact h.fst e he, fun e he => by rw [ha.val _ (h.slt e he) (hE e he)]; exact h.val e he, h.lt, h.out, fun e he => (hw'.out e he).2, h.rlo⟩
end

/-- What a script's call changes in the mixed state: its own elements and lists. -/
theorem Sim.step_away {V : Vl → Vl → Prop} {r s : Nat → Nat} {ma m : Md} {c c' : Cl} {most : Nat} (h : Sim false V r r s ma m) (hw : WF ma) (hp : Permitted most ma c) (hc : CSim false V r r c c') :
    Away (fun e => ∃ x, x < ma.cnt ∧ s x = e) (fun k => (∃ j, ma.isL j = true ∧ r j = k) ∨ k = m.len) m (m.step c').1 := by
  have hop : c'.op = c.op := hc.op
  have inl : ∀ k e, ma.isL k = true → e ∈ m.seq (r k) → ∃ x, x < ma.cnt ∧ s x = e := fun k e hk q => by
    rw [h.seq k hk] at q
    simp only [dir, Bool.false_eq_true, if_false, List.mem_map] at q
    obtain ⟨x, hx, rfl⟩ := q
    exact ⟨x, h.lt k x hx, rfl⟩
  refine Bead.step_away (.inr rfl) (fun a b => ?_) (fun a b => ?_) (fun a e q => ?_)
  · rw [hop] at a b
    obtain ⟨h0, h1, h2⟩ := hp.list a b
    rw [hc.list a b h0, Int.toNat_natCast]
    exact .inl ⟨_, h2, rfl⟩
  · rw [hop] at a b
    obtain ⟨h0, h1, h2⟩ := hp.list a b
    rw [hc.list a b h0, Int.toNat_natCast]
    exact fun e he => inl _ e h2 he
  · rw [hop] at a
    obtain ⟨h0, h1, x, hx⟩ := hp.elem a
    rw [hc.elem a h0, Int.toNat_natCast, h.ret _ x hx] at q
    simp at q
    subst q
    have hxc := h.rlo _ x hx
    refine ⟨⟨x, hxc, rfl⟩, fun y hy => ?_⟩
    have hin := h.inn x hxc
    cases hk : ma.inn x with
    | none =>
      rw [hk] at hin
      simp only [Md.next, Md.prev, hin] at hy
      simp at hy
    | some k =>
      have hkl := hw.isL_of_mem ((hw.mem k x).2 hk)
      rw [hk] at hin
      have hy' : y ∈ m.seq (r k) := by
        simp only [Md.next, Md.prev, hin, Option.map_some] at hy
        rcases hy with hy | hy
        · exact List.mem_of_getElem? hy
        · split at hy
          · simp at hy
          · exact List.mem_of_getElem? hy
      exact inl k y hkl hy'

/-- Two scripts in one state. -/
structure Two (ra rb sa sb : Nat → Nat) (ma mb m : Md) : Prop where
  a : Sim false Eq ra ra sa ma m
  b : Sim false Eq rb rb sb mb m
  wa : WF ma
  wb : WF mb
  w : WF m
  el : ∀ x y, x < ma.cnt → y < mb.cnt → sa x ≠ sb y
  li : ∀ x y, ma.isL x = true → mb.isL y = true → ra x ≠ rb y
  cnt : m.cnt = ma.cnt + mb.cnt
theorem Two.swap {ra rb sa sb : Nat → Nat} {ma mb m : Md} (h : Two ra rb sa sb ma mb m) : Two rb ra sb sa mb ma m :=
  ⟨h.b, h.a, h.wb, h.wa, h.w, fun x y hx hy q => h.el y x hy hx q.symm, fun x y hx hy q => h.li y x hy hx q.symm, by rw [h.cnt]; omega⟩
/-- A call of the first script. -/
theorem Two.step {ra rb sa sb : Nat → Nat} {ma mb m : Md} {c c' : Cl} (h : Two ra rb sa sb ma mb m) (hp : Permitted 500 ma c) (hc : CSim false Eq ra ra c c') (hr : ra ma.len = m.len) (hb : mb.cnt ≤ 500) :
    Permitted 1000 m c' ∧ ∃ sa', Two ra rb sa' sb (ma.step c).1 mb (m.step c').1 ∧ ASim Eq ra c.op (ma.step c).2 (m.step c').2 := by
  have hcnt := h.cnt
  have hp' := h.a.perm (most' := 1000) h.wa h.w hp hc (fun n hn => by omega)
  obtain ⟨sa', h1, h2, h3, h4, h5⟩ := h.a.step h.wa h.w hp hc hr (fun _ => hr)
  have hw' := h.w.step hp'
  have hwa := h.wa.step hp
  have aw := h.a.step_away h.wa hp hc
  refine ⟨hp', sa', ⟨h1, ?_, hwa, h.wb, hw', ?_, ?_, by omega⟩, h5⟩
  · refine h.b.away h.wb hw' aw (fun e he => ?_) (fun k hk => ?_)
    · rintro ⟨x, hx, q⟩
      exact h.el x e hx he q
    · rintro (⟨j, hj, q⟩ | q)
      · exact h.li j k hj hk q
      · have := h.b.rlt k (h.wb.isl k hk); omega
  · intro x y hx hy q
    by_cases z : x < ma.cnt
    · rw [h2 x z] at q; exact h.el x y z hy q
    · have := h3 x (by omega) hx
      have := h.b.slt y hy
      omega
  · intro x y hx hy q
    have hy' := h.b.rlt y (h.wb.isl y hy)
    rw [step_isL] at hx
    split at hx
    · simp only [upd] at hx
      split at hx
      · rename_i z; subst z; rw [hr] at q; omega
      · exact h.li x y hx hy q
    · exact h.li x y hx hy q

theorem ansFrom_get (cs : List Cl) (m : Md) (n : Nat) (c : Cl) (h : cs[n]? = some c) : (ansFrom m cs)[n]? = some ((runFrom m (cs.take n)).step c).2 := by
  obtain ⟨hn, e⟩ := List.getElem?_eq_some_iff.1 h
  have e2 : cs = cs.take n ++ c :: cs.drop (n + 1) := by
    conv => lhs; rw [← List.take_append_drop n cs, List.drop_eq_getElem_cons hn, e]
  have q := ansFrom_append (cs.take n) (c :: cs.drop (n + 1)) m
  rw [← e2] at q
  rw [q, List.getElem?_append_right (by rw [ansFrom_length, List.length_take]; omega), ansFrom_length, List.length_take, Nat.min_eq_left (by omega), Nat.sub_self]
  rfl
theorem take_succ_get {α : Type} {cs : List α} {n : Nat} {c : α} (h : cs[n]? = some c) : cs.take (n + 1) = cs.take n ++ [c] := by
  obtain ⟨hn, e⟩ := List.getElem?_eq_some_iff.1 h
  rw [List.take_succ_eq_append_getElem hn, e]
theorem ok_upto {most : Nat} {cs : List Cl} {m : Md} (h : okFrom most m cs = true) {n : Nat} {c : Cl} (hc : cs[n]? = some c) : okFrom most m (cs.take n) = true ∧ Permitted most (runFrom m (cs.take n)) c := by
  obtain ⟨hn, e⟩ := List.getElem?_eq_some_iff.1 hc
  have e2 : cs = cs.take n ++ c :: cs.drop (n + 1) := by
    conv => lhs; rw [← List.take_append_drop n cs, List.drop_eq_getElem_cons hn, e]
  rw [e2, okFrom_append] at h
  simp only [Bool.and_eq_true, okFrom] at h
  exact ⟨h.1, (permitted_iff _ _ _).1 h.2.1⟩

/-- Whose turn each of the first n calls was. -/
inductive Turns : Nat → List Nat → List Nat → Prop where
  | zero : Turns 0 [] []
  | mine {n : Nat} {pa pb : List Nat} : Turns n pa pb → Turns (n + 1) (pa ++ [n]) pb
  | yours {n : Nat} {pa pb : List Nat} : Turns n pa pb → Turns (n + 1) pa (pb ++ [n])
theorem Turns.facts {n : Nat} {pa pb : List Nat} (h : Turns n pa pb) : pa.length + pb.length = n ∧ (∀ p ∈ pa, p < n) ∧ (∀ p ∈ pb, p < n) ∧ pa.Nodup ∧ pb.Nodup := by
  induction h with
  | zero => simp
  | mine _ ih =>
    obtain ⟨h1, h2, h3, h4, h5⟩ := ih
    refine ⟨by simp; omega, fun p hp => ?_, fun p hp => Nat.lt_succ_of_lt (h3 p hp), ?_, h5⟩
    · rcases List.mem_append.1 hp with q | q
      · exact Nat.lt_succ_of_lt (h2 p q)
      · simp at q; omega
    · exact List.nodup_append.2 ⟨h4, by simp, fun x hx y hy q => by simp at hy; have := h2 x hx; omega⟩
  | yours _ ih =>
    obtain ⟨h1, h2, h3, h4, h5⟩ := ih
    refine ⟨by simp; omega, fun p hp => Nat.lt_succ_of_lt (h2 p hp), fun p hp => ?_, h4, ?_⟩
    · rcases List.mem_append.1 hp with q | q
      · exact Nat.lt_succ_of_lt (h3 p q)
      · simp at q; omega
    · exact List.nodup_append.2 ⟨h5, by simp, fun x hx y hy q => by simp at hy; have := h3 x hx; omega⟩

theorem ok_takes {most : Nat} {cs : List Cl} {m : Md} (h : okFrom most m cs = true) (n : Nat) : okFrom most m (cs.take n) = true := by
  rw [← List.take_append_drop n cs, okFrom_append] at h
  simp only [Bool.and_eq_true] at h
  exact h.1

/-- The two scripts' calls stand at their places. -/
structure Mixed (a b M : List Cl) (pa pb : List Nat) : Prop where
  la : pa.length = a.length
  lb : pb.length = b.length
  ga : ∀ (k p : Nat), pa[k]? = some p → M[p]? = (a[k]?).map (shiftC pa)
  gb : ∀ (k p : Nat), pb[k]? = some p → M[p]? = (b[k]?).map (shiftC pb)
/-- The answers of the calls so far. -/
def Said (a M : List Cl) (pa qa : List Nat) : Prop := ∀ (k p : Nat) (c : Cl) (x y : An), qa[k]? = some p → a[k]? = some c → (ansFrom Md.init a)[k]? = some x → (ansFrom Md.init M)[p]? = some y → ASim Eq (fun i => pa.getD i 0) c.op x y
theorem said_more {a M : List Cl} {pa qa : List Nat} (h : Said a M pa qa) {n : Nat} {c c' : Cl} (hc : a[qa.length]? = some c) (hM : M[n]? = some c') (hs : ASim Eq (fun i => pa.getD i 0) c.op ((runFrom Md.init (a.take qa.length)).step c).2 ((runFrom Md.init (M.take n)).step c').2) : Said a M pa (qa ++ [n]) := by
  intro k p d x y hk hd hx hy
  by_cases q : k < qa.length
  · rw [List.getElem?_append_left q] at hk; exact h k p d x y hk hd hx hy
  · have hkl : k = qa.length := by
      have := (List.getElem?_eq_some_iff.1 hk).1
      simp at this; omega
    subst hkl
    rw [List.getElem?_append_right (Nat.le_refl _)] at hk
    simp at hk
    subst hk
    rw [hc] at hd
    simp at hd
    subst hd
    rw [ansFrom_get a _ _ c hc] at hx
    rw [ansFrom_get M _ _ c' hM] at hy
    simp at hx hy
    subst hx hy
    exact hs

theorem mix_take {a b M : List Cl} {pa pb : List Nat} (h : Mixed a b M pa pb) (hoa : okFrom 500 Md.init a = true) (hob : okFrom 500 Md.init b = true) :
    ∀ {n : Nat} {qa qb : List Nat}, Turns n qa qb → (∃ t, pa = qa ++ t) → (∃ t, pb = qb ++ t) → okFrom 1000 Md.init (M.take n) = true ∧
      (∃ sa sb, Two (fun i => pa.getD i 0) (fun i => pb.getD i 0) sa sb (runFrom Md.init (a.take qa.length)) (runFrom Md.init (b.take qb.length)) (runFrom Md.init (M.take n))) ∧ Said a M pa qa ∧ Said b M pb qb := by
  intro n qa qb ht
  induction ht with
  | zero =>
    intro _ _
    refine ⟨rfl, ⟨id, id, ?_⟩, fun k p c x y q => by simp at q, fun k p c x y q => by simp at q⟩
    simp only [List.length_nil, List.take_zero, runFrom]
    exact ⟨Sim.init, Sim.init, WF.init, WF.init, WF.init, fun x y hx => by simp [Md.init] at hx, fun x y hx => by simp [Md.init] at hx, rfl⟩
  | @mine n qa qb ht ih =>
    rintro ⟨t, hpa⟩ hpb
    have hpa' : pa = qa ++ (n :: t) := by rw [hpa]; simp
    obtain ⟨h1, ⟨sa, sb, h2⟩, h3, h4⟩ := ih ⟨_, hpa'⟩ hpb
    have hg : pa[qa.length]? = some n := by rw [hpa']; simp
    have hil : qa.length < a.length := by have := (List.getElem?_eq_some_iff.1 hg).1; rw [h.la] at this; exact this
    have hc : a[qa.length]? = some a[qa.length] := List.getElem?_eq_getElem hil
    have hM : M[n]? = some (shiftC pa a[qa.length]) := by rw [h.ga _ _ hg, hc]; rfl
    have hgd : pa.getD qa.length 0 = n := by rw [List.getD_eq_getElem?_getD, hg]; rfl
    have hnM := (List.getElem?_eq_some_iff.1 hM).1
    obtain ⟨_, hp⟩ := ok_upto hoa hc
    have hu := uses_of a hoa _ _ hc
    have hs := shift_sim (P := pa) (r := fun i => pa.getD i 0) (fun _ _ => rfl) hu (by have := (List.getElem?_eq_some_iff.1 hg).1; simp [Md.init]; omega)
    have hb5 := run_cnt_le _ (ok_takes hob qb.length) (by simp [Md.init])
    obtain ⟨hp', sa', two, as⟩ := h2.step hp hs (by
      show pa.getD _ 0 = _
      rw [run_init_len, run_init_len, List.length_take, List.length_take, Nat.min_eq_left (by omega), Nat.min_eq_left (by omega), hgd]) hb5
    refine ⟨?_, ⟨sa', sb, ?_⟩, said_more h3 hc hM as, h4⟩
    · rw [take_succ_get hM, okFrom_append, h1]
      simp only [okFrom, Bool.and_true, Bool.true_and]
      exact (permitted_iff _ _ _).2 hp'
    · rw [List.length_append, List.length_singleton, take_succ_get hM, take_succ_get hc, runFrom_append, runFrom_append]
      exact two
  | @yours n qa qb ht ih =>
    rintro hpa ⟨t, hpb⟩
    have hpb' : pb = qb ++ (n :: t) := by rw [hpb]; simp
    obtain ⟨h1, ⟨sa, sb, h2⟩, h3, h4⟩ := ih hpa ⟨_, hpb'⟩
    have hg : pb[qb.length]? = some n := by rw [hpb']; simp
    have hil : qb.length < b.length := by have := (List.getElem?_eq_some_iff.1 hg).1; rw [h.lb] at this; exact this
    have hc : b[qb.length]? = some b[qb.length] := List.getElem?_eq_getElem hil
    have hM : M[n]? = some (shiftC pb b[qb.length]) := by rw [h.gb _ _ hg, hc]; rfl
    have hgd : pb.getD qb.length 0 = n := by rw [List.getD_eq_getElem?_getD, hg]; rfl
    have hnM := (List.getElem?_eq_some_iff.1 hM).1
    obtain ⟨_, hp⟩ := ok_upto hob hc
    have hu := uses_of b hob _ _ hc
    have hs := shift_sim (P := pb) (r := fun i => pb.getD i 0) (fun _ _ => rfl) hu (by have := (List.getElem?_eq_some_iff.1 hg).1; simp [Md.init]; omega)
    have hb5 := run_cnt_le _ (ok_takes hoa qa.length) (by simp [Md.init])
    obtain ⟨hp', sb', two, as⟩ := h2.swap.step hp hs (by
      show pb.getD _ 0 = _
      rw [run_init_len, run_init_len, List.length_take, List.length_take, Nat.min_eq_left (by omega), Nat.min_eq_left (by omega), hgd]) hb5
    refine ⟨?_, ⟨sa, sb', ?_⟩, h3, said_more h4 hc hM as⟩
    · rw [take_succ_get hM, okFrom_append, h1]
      simp only [okFrom, Bool.and_true, Bool.true_and]
      exact (permitted_iff _ _ _).2 hp'
    · rw [List.length_append, List.length_singleton, take_succ_get hM, take_succ_get hc, runFrom_append, runFrom_append]
      exact two.swap

theorem mix_run {a b M : List Cl} {n : Nat} {pa pb : List Nat} (ht : Turns n pa pb) (hn : M.length = n) (h : Mixed a b M pa pb) (hoa : okFrom 500 Md.init a = true) (hob : okFrom 500 Md.init b = true) :
    okFrom 1000 Md.init M = true ∧ (∀ (k p : Nat) (x y : An), pa[k]? = some p → (ansFrom Md.init a)[k]? = some x → (ansFrom Md.init M)[p]? = some y → unplace pa y = x) ∧
    (∀ (k p : Nat) (x y : An), pb[k]? = some p → (ansFrom Md.init b)[k]? = some x → (ansFrom Md.init M)[p]? = some y → unplace pb y = x) := by
  obtain ⟨h1, _, h3, h4⟩ := mix_take h hoa hob ht ⟨[], by simp⟩ ⟨[], by simp⟩
  obtain ⟨_, _, _, da, db⟩ := ht.facts
  refine ⟨by rw [List.take_of_length_le (by omega)] at h1; exact h1, fun k p x y hk hx hy => ?_, fun k p x y hk hx hy => ?_⟩
  · have hka : k < a.length := by have := (List.getElem?_eq_some_iff.1 hk).1; rw [h.la] at this; exact this
    refine unplace_sim (r := fun i => pa.getD i 0) (fun _ _ => rfl) da (h3 k p _ x y hk (List.getElem?_eq_getElem hka) hx hy) ?_
    have := ans_lt a WF.init hoa k x hx
    rw [h.la]; simp [Md.init] at this; omega
  · have hkb : k < b.length := by have := (List.getElem?_eq_some_iff.1 hk).1; rw [h.lb] at this; exact this
    refine unplace_sim (r := fun i => pb.getD i 0) (fun _ _ => rfl) db (h4 k p _ x y hk (List.getElem?_eq_getElem hkb) hx hy) ?_
    have := ans_lt b WF.init hob k x hx
    rw [h.lb]; simp [Md.init] at this; omega
end Bead
end Go.Proofs.Ytidnmanljdadaaa
