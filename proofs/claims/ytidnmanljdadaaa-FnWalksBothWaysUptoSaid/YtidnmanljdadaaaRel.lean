/- How the states of the plain model stand to lists and elements by their blocks: the relation, and that each step keeps it. No code is walked here. -/
import Derived.Test.YtidnmanljdadaaaVals
set_option linter.all false
namespace Go.Proofs.Ytidnmanljdadaaa
namespace Bead

/-- The list that an element names: the one that has it, or the one from which it was cleared. -/
def Md.own (m : Md) (e : Nat) : Option Nat := (m.inn e).or (m.clr e)

structure Rel (m : Md) (b : BM) (bl be : Nat → Nat) : Prop where
  L : ∀ k, b.L k ↔ ∃ i, m.isL i = true ∧ k = bl i
  E : ∀ k, b.E k ↔ ∃ e, e < m.cnt ∧ k = be e
  linj : ∀ i j, m.isL i = true → m.isL j = true → bl i = bl j → i = j
  einj : ∀ e f, e < m.cnt → f < m.cnt → be e = be f → e = f
  sq : ∀ i, m.isL i = true → b.sq (bl i) = (m.seq i).map be
  ow : ∀ e, e < m.cnt → b.ow (be e) = (m.own e).map bl

section
variable {m : Md} {b : BM} {bl be : Nat → Nat}
theorem Rel.isList (r : Rel m b bl be) {i : Nat} (hi : m.isL i = true) : b.L (bl i) := (r.L _).2 ⟨i, hi, rfl⟩
theorem Rel.isElem (r : Rel m b bl be) {e : Nat} (he : e < m.cnt) : b.E (be e) := (r.E _).2 ⟨e, he, rfl⟩
theorem Rel.owned (r : Rel m b bl be) (h : WF m) : b.owned := by
  intro k c hk hc
  obtain ⟨e, he, rfl⟩ := (r.E k).1 hk
  rw [r.ow e he] at hc
  cases ho : m.own e with
  | none => rw [ho] at hc; simp at hc
  | some l =>
    rw [ho] at hc; simp at hc; subst hc
    refine r.isList ?_
    unfold Md.own at ho
    cases hi : m.inn e with
    | none => rw [hi] at ho; simp at ho; exact (h.clr e l ho).2
    | some l' => rw [hi] at ho; simp at ho; subst ho; exact h.isL_of_mem ((h.mem _ e).2 hi)
theorem Rel.own_iff (r : Rel m b bl be) (h : WF m) {l e : Nat} (hl : m.isL l = true) (he : e < m.cnt) (hst : m.clr e ≠ some l) : b.ow (be e) = some (bl l) ↔ e ∈ m.seq l := by
  rw [r.ow e he, h.mem]
  unfold Md.own
  cases hi : m.inn e with
  | none =>
    simp only [Option.none_or, reduceCtorEq, iff_false]
    cases hc : m.clr e with
    | none => simp
    | some l' =>
      simp only [Option.map_some, Option.some.injEq]
      intro q
      have := r.linj _ _ (h.clr e l' hc).2 hl q
      subst this; exact hst hc
  | some l' =>
    simp only [Option.some_or, Option.map_some, Option.some.injEq]
    exact ⟨fun q => r.linj _ _ (h.isL_of_mem ((h.mem _ e).2 hi)) hl q, fun q => by rw [q]⟩

theorem map_upd {s : List Nat} {n N : Nat} (hs : ∀ x ∈ s, x ≠ n) : s.map (upd be n N) = s.map be := List.map_congr_left fun x hx => upd_other _ _ (hs x hx)

theorem Rel.give (r : Rel m b bl be) (i e : Nat) : Rel (m.give i e) b bl be := ⟨r.L, r.E, r.linj, r.einj, r.sq, r.ow⟩
theorem Rel.grow (r : Rel m b bl be) : Rel m.grow b bl be := ⟨r.L, r.E, r.linj, r.einj, r.sq, r.ow⟩
theorem Rel.set (r : Rel m b bl be) (e : Nat) (v : Vl) (k : Nat) (x : Value) : Rel { m with val := upd m.val e v } (b.setVl k x) bl be := ⟨r.L, r.E, r.linj, r.einj, r.sq, r.ow⟩

theorem Rel.newL (r : Rel m b bl be) (h : WF m) {N : Nat} (hN : ¬ b.node N) : Rel { m.grow with isL := upd m.isL m.len true } (b.newList N) (upd bl m.len N) be := by
  have hne : ∀ i, m.isL i = true → ¬ i = m.len := fun i hi q => by have := h.isl i hi; omega
  have hL : ∀ i, upd m.isL m.len true i = true ↔ (m.isL i = true ∨ i = m.len) := by
    intro i; by_cases q : i = m.len
    · subst q; simp [upd]
    · simp [upd, q]
  refine ⟨?_, r.E, ?_, r.einj, ?_, ?_⟩
  · intro k
    simp only [BM.newList, hL]
    constructor
    · rintro (q | q)
      · obtain ⟨i, hi, rfl⟩ := (r.L k).1 q
        exact ⟨i, .inl hi, (upd_other _ _ (hne i hi)).symm⟩
      · exact ⟨m.len, .inr rfl, by rw [upd_same]; exact q⟩
    · rintro ⟨i, hi | hi, rfl⟩
      · rw [upd_other _ _ (hne i hi)]; exact .inl (r.isList hi)
      · subst hi; rw [upd_same]; exact .inr rfl
  · intro i j hi hj
    simp only [hL] at hi hj
    by_cases q1 : i = m.len
    · by_cases q2 : j = m.len
      · intro _; rw [q1, q2]
      · have hj := hj.resolve_right q2
        subst q1; rw [upd_same, upd_other _ _ q2]
        intro q; subst q; exact absurd (.inl (r.isList hj)) hN
    · have hi := hi.resolve_right q1
      by_cases q2 : j = m.len
      · subst q2; rw [upd_same, upd_other _ _ q1]
        intro q; subst q; exact absurd (.inl (r.isList hi)) hN
      · rw [upd_other _ _ q1, upd_other _ _ q2]; exact r.linj i j hi (hj.resolve_right q2)
  · intro i hi
    simp only [hL] at hi
    simp only [BM.newList, Md.grow]
    by_cases q1 : i = m.len
    · subst q1; rw [upd_same, upd_same]
      have : m.isL m.len = false := by
        cases hx : m.isL m.len with
        | false => rfl
        | true => exact absurd rfl (hne _ hx)
      rw [h.emp _ this]; rfl
    · have hi := hi.resolve_right q1
      rw [upd_other _ _ q1, upd_other _ _ (fun q => hN (by rw [← q]; exact .inl (r.isList hi)))]; exact r.sq i hi
  · intro e he
    simp only [BM.newList]
    rw [r.ow e he]
    have e1 : Md.own { m.grow with isL := upd m.isL m.len true } e = m.own e := rfl
    rw [e1]
    cases ho : m.own e with
    | none => rfl
    | some l =>
      have hl : m.isL l = true := by
        unfold Md.own at ho
        cases hi : m.inn e with
        | none => rw [hi] at ho; simp at ho; exact (h.clr e l ho).2
        | some l' => rw [hi] at ho; simp at ho; subst ho; exact h.isL_of_mem ((h.mem _ e).2 hi)
      simp only [Option.map_some, upd_other _ _ (hne l hl)]

theorem mem_ne (h : WF m) {l x : Nat} (hx : x ∈ m.seq l) : x ≠ m.cnt := fun q => by have := h.lt hx; omega

theorem Rel.newE (r : Rel m b bl be) (h : WF m) {N : Nat} (hN : ¬ b.node N) (v : Vl) (x : Value) : Rel (m.make v none) (b.newElem N x) bl (upd be m.cnt N) := by
  refine ⟨r.L, ?_, r.linj, ?_, ?_, ?_⟩
  · intro k
    simp only [BM.newElem, Md.make]
    constructor
    · rintro (q | q)
      · obtain ⟨e, he, rfl⟩ := (r.E k).1 q
        exact ⟨e, by omega, (upd_other _ _ (by omega)).symm⟩
      · exact ⟨m.cnt, by omega, by rw [upd_same]; exact q⟩
    · rintro ⟨e, he, rfl⟩
      by_cases q : e = m.cnt
      · subst q; rw [upd_same]; exact .inr rfl
      · rw [upd_other _ _ q]; exact .inl (r.isElem (by omega))
  · intro e f he hf
    simp only [Md.make] at he hf
    by_cases q1 : e = m.cnt
    · by_cases q2 : f = m.cnt
      · intro _; rw [q1, q2]
      · subst q1; rw [upd_same, upd_other _ _ q2]
        intro q; subst q; exact absurd (.inr (r.isElem (by omega))) hN
    · by_cases q2 : f = m.cnt
      · subst q2; rw [upd_same, upd_other _ _ q1]
        intro q; subst q; exact absurd (.inr (r.isElem (by omega))) hN
      · rw [upd_other _ _ q1, upd_other _ _ q2]; exact r.einj e f (by omega) (by omega)
  · intro i hi
    simp only [BM.newElem, Md.make]
    rw [r.sq i hi, map_upd (fun x hx => mem_ne h hx)]
  · intro e he
    simp only [BM.newElem, Md.make, Md.own] at he ⊢
    by_cases q : e = m.cnt
    · subst q; rw [upd_same, upd_same, upd_same, (h.out m.cnt (Nat.le_refl _)).2.1]; rfl
    · rw [upd_other _ _ q, upd_other _ _ q, upd_other _ _ (fun s => hN (by rw [← s]; exact .inr (r.isElem (by omega))))]; exact r.ow e (by omega)

theorem Rel.ins (r : Rel m b bl be) (h : WF m) {N l : Nat} {u z : List Nat} (hN : ¬ b.node N) (hl : m.isL l = true) (hs : m.seq l = u ++ z) (v : Vl) (x : Value) :
    Rel ((m.make v (some l)).setSeq l (u ++ m.cnt :: z)) (b.ins (bl l) (u.map be) (z.map be) N x) bl (upd be m.cnt N) := by
  have hmem : ∀ y ∈ u ++ z, y ≠ m.cnt := fun y hy => mem_ne h (l := l) (hs ▸ hy)
  refine ⟨r.L, ?_, r.linj, ?_, ?_, ?_⟩
  · intro k
    simp only [BM.ins, Md.make, Md.setSeq]
    constructor
    · rintro (q | q)
      · obtain ⟨e, he, rfl⟩ := (r.E k).1 q
        exact ⟨e, by omega, (upd_other _ _ (by omega)).symm⟩
      · exact ⟨m.cnt, by omega, by rw [upd_same]; exact q⟩
    · rintro ⟨e, he, rfl⟩
      by_cases q : e = m.cnt
      · subst q; rw [upd_same]; exact .inr rfl
      · rw [upd_other _ _ q]; exact .inl (r.isElem (by omega))
  · intro e f he hf
    simp only [Md.make, Md.setSeq] at he hf
    by_cases q1 : e = m.cnt
    · by_cases q2 : f = m.cnt
      · intro _; rw [q1, q2]
      · subst q1; rw [upd_same, upd_other _ _ q2]
        intro q; subst q; exact absurd (.inr (r.isElem (by omega))) hN
    · by_cases q2 : f = m.cnt
      · subst q2; rw [upd_same, upd_other _ _ q1]
        intro q; subst q; exact absurd (.inr (r.isElem (by omega))) hN
      · rw [upd_other _ _ q1, upd_other _ _ q2]; exact r.einj e f (by omega) (by omega)
  · intro i hi
    simp only [BM.ins, Md.make, Md.setSeq] at hi ⊢
    by_cases q : i = l
    · subst q
      rw [upd_same, upd_same, List.map_append, List.map_cons, upd_same, map_upd (fun y hy => hmem y (by simp [hy])), map_upd (fun y hy => hmem y (by simp [hy]))]
    · rw [upd_other _ _ q, upd_other _ _ (fun s => q (r.linj _ _ hi hl s)), r.sq i hi, map_upd (fun y hy => mem_ne h hy)]
  · intro e he
    simp only [BM.ins, Md.make, Md.setSeq, Md.own] at he ⊢
    by_cases q : e = m.cnt
    · subst q; rw [upd_same, upd_same, upd_same]; rfl
    · rw [upd_other _ _ q, upd_other _ _ q, upd_other _ _ (fun s => hN (by rw [← s]; exact .inr (r.isElem (by omega))))]; exact r.ow e (by omega)

theorem Rel.setSeq (r : Rel m b bl be) {l : Nat} (hl : m.isL l = true) (s : List Nat) : Rel (m.setSeq l s) (b.setSq (bl l) (s.map be)) bl be := by
  refine ⟨r.L, r.E, r.linj, r.einj, ?_, r.ow⟩
  intro i hi
  simp only [BM.setSq, Md.setSeq] at hi ⊢
  by_cases q : i = l
  · subst q; rw [upd_same, upd_same]
  · rw [upd_other _ _ q, upd_other _ _ (fun s => q (r.linj _ _ hi hl s))]; exact r.sq i hi

theorem filter_mid {u z : List Nat} {e : Nat} (h : (u ++ e :: z).Nodup) : (u ++ e :: z).filter (fun x => decide (x ≠ e)) = u ++ z := by
  have hnd := List.nodup_append.1 h
  have hu : u.filter (fun x => decide (x ≠ e)) = u := List.filter_eq_self.2 (fun x hx => by simp; exact fun q => hnd.2.2 x hx e (by simp) q)
  have hz : z.filter (fun x => decide (x ≠ e)) = z := List.filter_eq_self.2 (fun x hx => by simp; exact fun q => (List.nodup_cons.1 hnd.2.1).1 (q ▸ hx))
  rw [List.filter_append, List.filter_cons_of_neg (by simp), hu, hz]

theorem Rel.drop (r : Rel m b bl be) (h : WF m) {l e : Nat} {u z : List Nat} (hl : m.isL l = true) (hs : m.seq l = u ++ e :: z) : Rel (m.drop l e) (b.rem (bl l) (u.map be) (z.map be) (be e)) bl be := by
  have hin : m.inn e = some l := (h.mem l e).1 (by rw [hs]; simp)
  have hlt : e < m.cnt := h.lt (l := l) (by rw [hs]; simp)
  have hcl : m.clr e = none := by
    cases hc : m.clr e with
    | none => rfl
    | some k => have := (h.clr e k hc).1; rw [hin] at this; simp at this
  refine ⟨r.L, r.E, r.linj, r.einj, ?_, ?_⟩
  · intro i hi
    simp only [BM.rem, Md.drop, Md.take, Md.setSeq] at hi ⊢
    by_cases q : i = l
    · subst q
      rw [upd_same, upd_same, hs, filter_mid (hs ▸ h.nodup i), List.map_append]
    · rw [upd_other _ _ q, upd_other _ _ (fun s => q (r.linj _ _ hi hl s))]; exact r.sq i hi
  · intro f hf
    simp only [BM.rem, Md.drop, Md.take, Md.setSeq, Md.own] at hf ⊢
    by_cases q : f = e
    · subst q; rw [upd_same, upd_same, hcl]; rfl
    · rw [upd_other _ _ q, upd_other _ _ (fun s => q (r.einj _ _ hf hlt s))]; exact r.ow f hf

theorem Rel.clear (r : Rel m b bl be) (h : WF m) {l : Nat} (hl : m.isL l = true) : Rel (m.clear l) (b.setSq (bl l) []) bl be := by
  refine ⟨r.L, r.E, r.linj, r.einj, ?_, ?_⟩
  · intro i hi
    simp only [BM.setSq, Md.clear] at hi ⊢
    by_cases q : i = l
    · subst q; rw [upd_same, upd_same]; rfl
    · rw [upd_other _ _ q, upd_other _ _ (fun s => q (r.linj _ _ hi hl s))]; exact r.sq i hi
  · intro e he
    have hr := r.ow e he
    simp only [BM.setSq, Md.clear, Md.own] at he hr ⊢
    by_cases q : e ∈ m.seq l
    · rw [if_pos q, if_pos q, hr, (h.mem l e).1 q]; rfl
    · rw [if_neg q, if_neg q]; exact hr

def beBack (be : Nat → Nat) (c N n : Nat) (e : Nat) : Nat := if c ≤ e ∧ e < c + n then N + (e - c) else be e
def beFront (be : Nat → Nat) (c N n : Nat) (e : Nat) : Nat := if c ≤ e ∧ e < c + n then N + (n - 1 - (e - c)) else be e

theorem map_range_back (c N n : Nat) : (List.range' c n).map (beBack be c N n) = List.range' N n := by
  apply List.ext_getElem
  · simp
  · intro i h1 h2
    simp only [List.getElem_map, List.getElem_range', Nat.one_mul, beBack]
    simp at h1
    rw [if_pos (by omega)]; omega
theorem map_range_front (c N n : Nat) : (List.range' c n).map (beFront be c N n) = (List.range' N n).reverse := by
  apply List.ext_getElem
  · simp
  · intro i h1 h2
    simp only [List.getElem_map, List.getElem_range', Nat.one_mul, beFront, List.getElem_reverse, List.length_range']
    simp at h1
    rw [if_pos (by omega)]; omega

theorem Rel.app (r : Rel m b bl be) (h : WF m) {N l : Nat} {xs : List Nat} (hN : ∀ k, b.node k → k < N) (hl : m.isL l = true) (ys : List Nat) (hy : ys.length = xs.length) :
    Rel ((m.copy l xs).setSeq l (m.seq l ++ List.range' m.cnt xs.length)) (b.app (bl l) N ys) bl (beBack be m.cnt N xs.length) := by
  have hold : ∀ e, e < m.cnt → beBack be m.cnt N xs.length e = be e := fun e he => by unfold beBack; rw [if_neg (by omega)]
  have hmap : ∀ i, (m.seq i).map (beBack be m.cnt N xs.length) = (m.seq i).map be := fun i => List.map_congr_left fun x hx => hold x (h.lt hx)
  have hnew : ∀ e, m.cnt ≤ e → e < m.cnt + xs.length → beBack be m.cnt N xs.length e = N + (e - m.cnt) := fun e h1 h2 => by unfold beBack; rw [if_pos ⟨h1, h2⟩]
  have hlt : ∀ e, e < m.cnt → be e < N := fun e he => hN _ (.inr (r.isElem he))
  refine ⟨r.L, ?_, r.linj, ?_, ?_, ?_⟩
  · intro k
    simp only [BM.app, Md.copy, Md.setSeq, hy]
    constructor
    · rintro (q | q)
      · obtain ⟨e, he, rfl⟩ := (r.E k).1 q
        exact ⟨e, by omega, (hold e he).symm⟩
      · exact ⟨m.cnt + (k - N), by omega, by rw [hnew _ (by omega) (by omega)]; omega⟩
    · rintro ⟨e, he, rfl⟩
      by_cases q : e < m.cnt
      · rw [hold e q]; exact .inl (r.isElem q)
      · rw [hnew e (by omega) (by omega)]; exact .inr (by omega)
  · intro e f he hf
    simp only [Md.copy, Md.setSeq] at he hf
    by_cases q1 : e < m.cnt
    · have := hlt e q1
      by_cases q2 : f < m.cnt
      · rw [hold e q1, hold f q2]; exact r.einj e f q1 q2
      · rw [hold e q1, hnew f (by omega) (by omega)]; omega
    · by_cases q2 : f < m.cnt
      · have := hlt f q2
        rw [hold f q2, hnew e (by omega) (by omega)]; omega
      · rw [hnew e (by omega) (by omega), hnew f (by omega) (by omega)]; omega
  · intro i hi
    simp only [BM.app, Md.copy, Md.setSeq, hy] at hi ⊢
    by_cases q : i = l
    · subst q
      rw [upd_same, upd_same, List.map_append, map_range_back, r.sq i hi, hmap]
    · rw [upd_other _ _ q, upd_other _ _ (fun s => q (r.linj _ _ hi hl s)), r.sq i hi, hmap]
  · intro e he
    simp only [BM.app, Md.copy, Md.setSeq, Md.own, hy] at he ⊢
    by_cases q : e < m.cnt
    · have := hlt e q
      rw [hold e q, if_neg (by omega), if_neg (by omega)]; exact r.ow e q
    · rw [hnew e (by omega) (by omega), if_pos (by omega), if_pos (by omega)]; rfl

theorem Rel.pre (r : Rel m b bl be) (h : WF m) {N l : Nat} {xs : List Nat} (hN : ∀ k, b.node k → k < N) (hl : m.isL l = true) (ys : List Nat) (hy : ys.length = xs.length) :
    Rel ((m.copy l xs).setSeq l (List.range' m.cnt xs.length ++ m.seq l)) (b.pre (bl l) N ys) bl (beFront be m.cnt N xs.length) := by
  have hold : ∀ e, e < m.cnt → beFront be m.cnt N xs.length e = be e := fun e he => by unfold beFront; rw [if_neg (by omega)]
  have hmap : ∀ i, (m.seq i).map (beFront be m.cnt N xs.length) = (m.seq i).map be := fun i => List.map_congr_left fun x hx => hold x (h.lt hx)
  have hnew : ∀ e, m.cnt ≤ e → e < m.cnt + xs.length → beFront be m.cnt N xs.length e = N + (xs.length - 1 - (e - m.cnt)) := fun e h1 h2 => by unfold beFront; rw [if_pos ⟨h1, h2⟩]
  have hlt : ∀ e, e < m.cnt → be e < N := fun e he => hN _ (.inr (r.isElem he))
  refine ⟨r.L, ?_, r.linj, ?_, ?_, ?_⟩
  · intro k
    simp only [BM.pre, Md.copy, Md.setSeq, hy]
    constructor
    · rintro (q | q)
      · obtain ⟨e, he, rfl⟩ := (r.E k).1 q
        exact ⟨e, by omega, (hold e he).symm⟩
      · exact ⟨m.cnt + (xs.length - 1 - (k - N)), by omega, by rw [hnew _ (by omega) (by omega)]; omega⟩
    · rintro ⟨e, he, rfl⟩
      by_cases q : e < m.cnt
      · rw [hold e q]; exact .inl (r.isElem q)
      · rw [hnew e (by omega) (by omega)]; exact .inr (by omega)
  · intro e f he hf
    simp only [Md.copy, Md.setSeq] at he hf
    by_cases q1 : e < m.cnt
    · have := hlt e q1
      by_cases q2 : f < m.cnt
      · rw [hold e q1, hold f q2]; exact r.einj e f q1 q2
      · rw [hold e q1, hnew f (by omega) (by omega)]; omega
    · by_cases q2 : f < m.cnt
      · have := hlt f q2
        rw [hold f q2, hnew e (by omega) (by omega)]; omega
      · rw [hnew e (by omega) (by omega), hnew f (by omega) (by omega)]; omega
  · intro i hi
    simp only [BM.pre, Md.copy, Md.setSeq, hy] at hi ⊢
    by_cases q : i = l
    · subst q
      rw [upd_same, upd_same, List.map_append, map_range_front, r.sq i hi, hmap]
    · rw [upd_other _ _ q, upd_other _ _ (fun s => q (r.linj _ _ hi hl s)), r.sq i hi, hmap]
  · intro e he
    simp only [BM.pre, Md.copy, Md.setSeq, Md.own, hy] at he ⊢
    by_cases q : e < m.cnt
    · have := hlt e q
      rw [hold e q, if_neg (by omega), if_neg (by omega)]; exact r.ow e q
    · rw [hnew e (by omega) (by omega), if_pos (by omega), if_pos (by omega)]; rfl
end
end Bead
end Go.Proofs.Ytidnmanljdadaaa
