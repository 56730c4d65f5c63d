/- Plain laws: one run of the model follows another, under maps of calls, lists and elements, mirrored or not. No program is in sight here. -/
import Derived.Test.YtidnmanljdadaaaModel
set_option linter.all false
namespace Go.Proofs.Ytidnmanljdadaaa
namespace Bead

def dir (rev : Bool) (s : List Nat) : List Nat := if rev then s.reverse else s
theorem dir_nil (rev : Bool) : dir rev [] = [] := by cases rev <;> rfl
theorem dir_length (rev : Bool) (s : List Nat) : (dir rev s).length = s.length := by cases rev <;> simp [dir]
theorem dir_mem (rev : Bool) (s : List Nat) (x : Nat) : x ∈ dir rev s ↔ x ∈ s := by cases rev <;> simp [dir]
theorem dir_filter (rev : Bool) (s : List Nat) (p : Nat → Bool) : (dir rev s).filter p = dir rev (s.filter p) := by cases rev <;> simp [dir]

def mir (op : Int) : Int :=
  if op = 3 then 4 else if op = 4 then 3 else if op = 5 then 6 else if op = 6 then 5 else if op = 7 then 8 else if op = 8 then 7 else if op = 9 then 10 else if op = 10 then 9
  else if op = 12 then 13 else if op = 13 then 12 else if op = 15 then 16 else if op = 16 then 15 else if op = 18 then 19 else if op = 19 then 18 else op
def mop (rev : Bool) (op : Int) : Int := if rev then mir op else op

/-- The place at which something stands in the mirrored list. -/
def mpos (rev : Bool) (n p : Nat) : Nat := if rev then n - p else p
theorem dir_ins (rev : Bool) (t : List Nat) (x p : Nat) (hp : p ≤ t.length) : dir rev (t.take p ++ x :: t.drop p) = (dir rev t).take (mpos rev t.length p) ++ x :: (dir rev t).drop (mpos rev t.length p) := by
  cases rev
  · simp [dir, mpos]
  · simp only [dir, mpos, if_true, List.reverse_append, List.reverse_cons, List.append_assoc, List.singleton_append]
    rw [List.take_reverse, List.drop_reverse]
    have e : t.length - (t.length - p) = p := by omega
    rw [e]

structure Sim (rev : Bool) (V : Vl → Vl → Prop) (r l s : Nat → Nat) (m m' : Md) : Prop where
  rlt : ∀ i, i < m.len → r i < m'.len
  isl : ∀ k, m.isL k = true → m'.isL (l k) = true
  linj : ∀ a b, m.isL a = true → m.isL b = true → l a = l b → a = b
  slt : ∀ e, e < m.cnt → s e < m'.cnt
  sinj : ∀ e f, e < m.cnt → f < m.cnt → s e = s f → e = f
  seq : ∀ k, m.isL k = true → m'.seq (l k) = dir rev ((m.seq k).map s)
  ret : ∀ i e, m.ret i = some e → m'.ret (r i) = some (s e)
  inn : ∀ e, e < m.cnt → m'.inn (s e) = (m.inn e).map l
  clr : ∀ e, e < m.cnt → m'.clr (s e) = (m.clr e).map l
  fst : ∀ e, e < m.cnt → m'.fst (s e) = (m.fst e).map r
  val : ∀ e, e < m.cnt → V (m.val e) (m'.val (s e))
  lt : ∀ k e, e ∈ m.seq k → e < m.cnt
  out : ∀ e, m.cnt ≤ e → m.clr e = none ∧ m.fst e = none
  out' : ∀ e, m'.cnt ≤ e → m'.clr e = none ∧ m'.fst e = none
  rlo : ∀ i e, m.ret i = some e → e < m.cnt

section
variable {rev : Bool} {V : Vl → Vl → Prop} {r l s : Nat → Nat} {m m' : Md}
theorem Sim.grow (h : Sim rev V r l s m m') (hr : r m.len = m'.len) : Sim rev V r l s m.grow m'.grow :=
  ⟨fun i hi => by
    simp only [Md.grow] at hi ⊢
    by_cases q : i = m.len
    · subst q; rw [hr]; omega
    · have := h.rlt i (by omega); omega, h.isl, h.linj, h.slt, h.sinj, h.seq, h.ret, h.inn, h.clr, h.fst, h.val, h.lt, h.out, h.out', h.rlo⟩
/-- A list's elements in another order, or other ones of those that are there. -/
theorem Sim.setSeq (h : Sim rev V r l s m m') {k : Nat} (hk : m.isL k = true) {t : List Nat} (ht : ∀ e ∈ t, e < m.cnt) : Sim rev V r l s (m.setSeq k t) (m'.setSeq (l k) (dir rev (t.map s))) := by
  refine ⟨h.rlt, h.isl, h.linj, h.slt, h.sinj, fun a ha => ?_, h.ret, h.inn, h.clr, h.fst, h.val, fun a e he => ?_, h.out, h.out', h.rlo⟩
  · simp only [Md.setSeq] at ha ⊢
    by_cases q : a = k
    · subst q; rw [upd_same, upd_same]
    · rw [upd_other _ _ q, upd_other _ _ (fun z => q (h.linj a k ha hk z))]; exact h.seq a ha
  · simp only [Md.setSeq] at he ⊢
    by_cases q : a = k
    · subst q; rw [upd_same] at he; exact ht e he
    · rw [upd_other _ _ q] at he; exact h.lt a e he
theorem smap_upd {t : List Nat} {c x : Nat} (ht : ∀ e ∈ t, e < c) : t.map (upd s c x) = t.map s := List.map_congr_left (fun e he => upd_other _ _ (by have := ht e he; omega))
/-- An element more. -/
theorem Sim.make (h : Sim rev V r l s m m') {v v' : Vl} (hv : V (canon v) (canon v')) (o : Option Nat) : Sim rev V r l (upd s m.cnt m'.cnt) (m.make v o) (m'.make v' (o.map l)) := by
  refine ⟨h.rlt, h.isl, h.linj, fun e he => ?_, fun e f he hf q => ?_, fun k hk => ?_, fun i e q => ?_, fun e he => ?_, fun e he => ?_, fun e he => ?_, fun e he => ?_, fun k e he => ?_, fun e he => ?_, fun e he => ?_, fun i e q => ?_⟩
  · simp only [Md.make] at he ⊢
    by_cases q : e = m.cnt
    · subst q; rw [upd_same]; omega
    · rw [upd_other _ _ q]; have := h.slt e (by omega); omega
  · simp only [Md.make] at he hf
    by_cases a : e = m.cnt
    · by_cases b : f = m.cnt
      · rw [a, b]
      · subst a; rw [upd_same, upd_other _ _ b] at q; have := h.slt f (by omega); omega
    · by_cases b : f = m.cnt
      · subst b; rw [upd_same, upd_other _ _ a] at q; have := h.slt e (by omega); omega
      · rw [upd_other _ _ a, upd_other _ _ b] at q; exact h.sinj e f (by omega) (by omega) q
  · simp only [Md.make] at hk ⊢
    rw [smap_upd (fun e he => h.lt k e he)]; exact h.seq k hk
  · simp only [Md.make] at q ⊢
    have := h.rlo i e q
    rw [upd_other _ _ (by omega)]; exact h.ret i e q
  · simp only [Md.make] at he ⊢
    by_cases q : e = m.cnt
    · subst q; rw [upd_same, upd_same, upd_same]
    · have := h.slt e (by omega)
      rw [upd_other _ _ q, upd_other _ _ (by omega), upd_other _ _ q]; exact h.inn e (by omega)
  · simp only [Md.make] at he ⊢
    by_cases q : e = m.cnt
    · subst q; rw [upd_same, (h.out _ (Nat.le_refl _)).1, (h.out' _ (Nat.le_refl _)).1]; rfl
    · rw [upd_other _ _ q]; exact h.clr e (by omega)
  · simp only [Md.make] at he ⊢
    by_cases q : e = m.cnt
    · subst q; rw [upd_same, (h.out _ (Nat.le_refl _)).2, (h.out' _ (Nat.le_refl _)).2]; rfl
    · rw [upd_other _ _ q]; exact h.fst e (by omega)
  · simp only [Md.make] at he ⊢
    by_cases q : e = m.cnt
    · subst q; rw [upd_same, upd_same, upd_same]; exact hv
    · have := h.slt e (by omega)
      rw [upd_other m.val _ q, upd_other s _ q, upd_other m'.val _ (by omega)]; exact h.val e (by omega)
  · simp only [Md.make] at he ⊢; have := h.lt k e he; omega
  · simp only [Md.make] at he ⊢; exact h.out e (by omega)
  · simp only [Md.make] at he ⊢; exact h.out' e (by omega)
  · simp only [Md.make] at q ⊢; have := h.rlo i e q; omega
/-- Call i returns e. -/
theorem Sim.give (h : Sim rev V r l s m m') {i e : Nat} (he : e < m.cnt) (hi : ∀ j x, m.ret j = some x → r j ≠ r i) : Sim rev V r l s (m.give i e) (m'.give (r i) (s e)) := by
  have hf := h.fst e he
  refine ⟨h.rlt, h.isl, h.linj, h.slt, h.sinj, h.seq, fun j x q => ?_, h.inn, h.clr, fun x hx => ?_, h.val, h.lt, fun x hx => ?_, fun x hx => ?_, fun j x q => ?_⟩
  · simp only [Md.give] at q ⊢
    by_cases a : j = i
    · subst a; rw [upd_same] at q ⊢; simp at q; rw [q]
    · rw [upd_other _ _ a] at q
      rw [upd_other _ _ (hi j x q)]; exact h.ret j x q
  · simp only [Md.give] at hx ⊢
    by_cases a : x = e
    · subst a
      rw [upd_same, upd_same, hf]
      cases m.fst x <;> rfl
    · rw [upd_other _ _ a, upd_other _ _ (fun z => a (h.sinj x e hx he z))]; exact h.fst x hx
  · simp only [Md.give] at hx ⊢; rw [upd_other _ _ (by omega)]; exact h.out x hx
  · simp only [Md.give] at hx ⊢; have := h.slt e he; rw [upd_other _ _ (by omega)]; exact h.out' x hx
  · simp only [Md.give] at q ⊢
    by_cases a : j = i
    · subst a; rw [upd_same] at q; simp at q; rw [← q]; exact he
    · rw [upd_other _ _ a] at q; exact h.rlo j x q
theorem Sim.num (h : Sim rev V r l s m m') {i e : Nat} (he : e < m.cnt) : m'.num (r i) (s e) = ⟨(r ((m.fst e).getD i) : Nat), 0, Vl.zero⟩ := by
  unfold Md.num
  rw [h.fst e he]
  cases m.fst e <;> rfl
theorem Sim.setVal (h : Sim rev V r l s m m') {e : Nat} (he : e < m.cnt) {v v' : Vl} (hv : V v v') : Sim rev V r l s { m with val := upd m.val e v } { m' with val := upd m'.val (s e) v' } := by
  refine ⟨h.rlt, h.isl, h.linj, h.slt, h.sinj, h.seq, h.ret, h.inn, h.clr, h.fst, fun x hx => ?_, h.lt, h.out, h.out', h.rlo⟩
  simp only at hx ⊢
  by_cases a : x = e
  · subst a; rw [upd_same, upd_same]; exact hv
  · rw [upd_other _ _ a, upd_other _ _ (fun z => a (h.sinj x e hx he z))]; exact h.val x hx
theorem Sim.setInn (h : Sim rev V r l s m m') {e : Nat} (he : e < m.cnt) (o : Option Nat) : Sim rev V r l s { m with inn := upd m.inn e o } { m' with inn := upd m'.inn (s e) (o.map l) } := by
  refine ⟨h.rlt, h.isl, h.linj, h.slt, h.sinj, h.seq, h.ret, fun x hx => ?_, h.clr, h.fst, h.val, h.lt, h.out, h.out', h.rlo⟩
  simp only at hx ⊢
  by_cases a : x = e
  · subst a; rw [upd_same, upd_same]
  · rw [upd_other _ _ a, upd_other _ _ (fun z => a (h.sinj x e hx he z))]; exact h.inn x hx
theorem Sim.newL (h : Sim rev V r l s m m') {n : Nat} (hn : m.isL n = false) (hl : m'.isL (l n) = false) (hs : m.seq n = []) (hs' : m'.seq (l n) = []) : Sim rev V r l s { m with isL := upd m.isL n true } { m' with isL := upd m'.isL (l n) true } := by
  have hk : ∀ k, upd m.isL n true k = true → k ≠ n → m.isL k = true := fun k q a => by rw [upd_other _ _ a] at q; exact q
  refine ⟨h.rlt, fun k q => ?_, fun a b qa qb z => ?_, h.slt, h.sinj, fun k q => ?_, h.ret, h.inn, h.clr, h.fst, h.val, h.lt, h.out, h.out', h.rlo⟩
  · by_cases a : k = n
    · subst a; exact upd_same _ _ _
    · have := h.isl k (hk k q a)
      simp only
      rw [upd_other _ _ (fun z => by rw [z, hl] at this; simp at this)]; exact this
  · by_cases e1 : a = n
    · by_cases e2 : b = n
      · rw [e1, e2]
      · subst e1; have := h.isl b (hk b qb e2); rw [← z, hl] at this; simp at this
    · by_cases e2 : b = n
      · subst e2; have := h.isl a (hk a qa e1); rw [z, hl] at this; simp at this
      · exact h.linj a b (hk a qa e1) (hk b qb e2) z
  · by_cases a : k = n
    · subst a; simp only; rw [hs, hs']; exact (dir_nil rev).symm
    · exact h.seq k (hk k q a)
theorem Sim.mem (h : Sim rev V r l s m m') {k e : Nat} (hk : m.isL k = true) (he : e < m.cnt) : s e ∈ m'.seq (l k) ↔ e ∈ m.seq k := by
  rw [h.seq k hk, dir_mem, List.mem_map]
  exact ⟨fun ⟨x, hx, q⟩ => by rw [← h.sinj x e (h.lt k x hx) he q]; exact hx, fun q => ⟨e, q, rfl⟩⟩
/-- All elements of a list are cleared. -/
theorem Sim.clear (h : Sim rev V r l s m m') {k : Nat} (hk : m.isL k = true) : Sim rev V r l s (m.clear k) (m'.clear (l k)) := by
  have h1 := h.setSeq hk (t := []) (by simp)
  simp only [List.map_nil, dir_nil] at h1
  refine ⟨h1.rlt, h1.isl, h1.linj, h1.slt, h1.sinj, h1.seq, h1.ret, fun e he => ?_, fun e he => ?_, h1.fst, h1.val, h1.lt, fun e he => ?_, fun e he => ?_, h1.rlo⟩
  · have := h.mem hk he
    simp only [Md.clear] at he ⊢
    by_cases q : e ∈ m.seq k
    · rw [if_pos q, if_pos (this.2 q)]; rfl
    · rw [if_neg q, if_neg (fun z => q (this.1 z))]; exact h.inn e he
  · have := h.mem hk he
    simp only [Md.clear] at he ⊢
    by_cases q : e ∈ m.seq k
    · rw [if_pos q, if_pos (this.2 q)]; rfl
    · rw [if_neg q, if_neg (fun z => q (this.1 z))]; exact h.clr e he
  · simp only [Md.clear] at he ⊢
    rw [if_neg (fun z => by have := h.lt k e z; omega)]; exact h.out e he
  · simp only [Md.clear] at he ⊢
    rw [if_neg (fun z => by
      rw [h.seq k hk, dir_mem, List.mem_map] at z
      obtain ⟨x, hx, rfl⟩ := z
      have := h.slt x (h.lt k x hx); omega)]
    exact h.out' e he
end
end Bead
end Go.Proofs.Ytidnmanljdadaaa

/- Plain laws: one run of the model follows another: what each kind of call does. -/
namespace Go.Proofs.Ytidnmanljdadaaa
namespace Bead

theorem idxOf_of_get {t : List Nat} (hn : t.Nodup) {x j : Nat} (h : t[j]? = some x) : t.idxOf x = j := by
  obtain ⟨hj, e⟩ := List.getElem?_eq_some_iff.1 h
  have := List.Nodup.idxOf_getElem hn j hj
  rw [e] at this; exact this
theorem get_idxOf {t : List Nat} {x : Nat} (h : x ∈ t) : t[t.idxOf x]? = some x := by
  rw [List.getElem?_eq_getElem (List.idxOf_lt_length_of_mem h), List.getElem_idxOf]
theorem dir_get (rev : Bool) (t : List Nat) {j : Nat} (hj : j < t.length) : (dir rev t)[if rev then t.length - 1 - j else j]? = t[j]? := by
  cases rev
  · simp [dir]
  · simp only [dir, if_true]
    rw [List.getElem?_reverse (by omega)]
    congr 1
    omega
theorem dir_nodup (rev : Bool) {t : List Nat} (h : t.Nodup) : (dir rev t).Nodup := by
  cases rev
  · exact h
  · exact (List.reverse_perm t).nodup_iff.2 h
theorem nodup_map_on {t : List Nat} {f : Nat → Nat} (hn : t.Nodup) (hf : ∀ a ∈ t, ∀ b ∈ t, f a = f b → a = b) : (t.map f).Nodup := by
  induction t with
  | nil => simp
  | cons a t ih =>
    rw [List.nodup_cons] at hn
    rw [List.map_cons, List.nodup_cons]
    refine ⟨fun q => ?_, ih hn.2 (fun x hx y hy => hf x (by simp [hx]) y (by simp [hy]))⟩
    obtain ⟨b, hb, e⟩ := List.mem_map.1 q
    have := hf b (by simp [hb]) a (by simp) e
    subst this; exact hn.1 hb

section
variable {rev : Bool} {V : Vl → Vl → Prop} {r l s : Nat → Nat} {m m' : Md}
theorem Sim.len (h : Sim rev V r l s m m') {k : Nat} (hk : m.isL k = true) : (m'.seq (l k)).length = (m.seq k).length := by rw [h.seq k hk, dir_length, List.length_map]
theorem Sim.nodup (h : Sim rev V r l s m m') {k : Nat} (hk : m.isL k = true) (hn : (m.seq k).Nodup) : (m'.seq (l k)).Nodup := by
  rw [h.seq k hk]
  exact dir_nodup rev (nodup_map_on hn (fun a ha b hb q => h.sinj a b (h.lt k a ha) (h.lt k b hb) q))
theorem Sim.get (h : Sim rev V r l s m m') {k j : Nat} (hk : m.isL k = true) (hj : j < (m.seq k).length) : (m'.seq (l k))[if rev then (m.seq k).length - 1 - j else j]? = ((m.seq k)[j]?).map s := by
  rw [h.seq k hk]
  have := dir_get rev ((m.seq k).map s) (j := j) (by simpa using hj)
  rw [List.length_map] at this
  rw [this, List.getElem?_map]
theorem Sim.idx (h : Sim rev V r l s m m') {k e : Nat} (hk : m.isL k = true) (hn : (m.seq k).Nodup) (he : e ∈ m.seq k) : (m'.seq (l k)).idxOf (s e) = if rev then (m.seq k).length - 1 - (m.seq k).idxOf e else (m.seq k).idxOf e := by
  have hj := List.idxOf_lt_length_of_mem he
  have := h.get hk hj
  rw [get_idxOf he] at this
  exact idxOf_of_get (h.nodup hk hn) this
theorem Sim.ins (h : Sim rev V r l s m m') {k p : Nat} (hk : m.isL k = true) (hp : p ≤ (m.seq k).length) {v v' : Vl} (hv : V (canon v) (canon v')) :
    Sim rev V r l (upd s m.cnt m'.cnt) ((m.make v (some k)).put k p m.cnt) ((m'.make v' (some (l k))).put (l k) (mpos rev (m.seq k).length p) m'.cnt) := by
  have h1 := (h.make hv (some k)).setSeq (k := k) hk (t := (m.seq k).take p ++ m.cnt :: (m.seq k).drop p) (by
    intro e he
    simp only [Md.make]
    rcases List.mem_append.1 he with q | q
    · have := h.lt k e (List.mem_of_mem_take q); omega
    · rcases List.mem_cons.1 q with q | q
      · omega
      · have := h.lt k e (List.mem_of_mem_drop q); omega)
  have e : dir rev (((m.seq k).take p ++ m.cnt :: (m.seq k).drop p).map (upd s m.cnt m'.cnt)) = ((m'.seq (l k)).take (mpos rev (m.seq k).length p) ++ m'.cnt :: (m'.seq (l k)).drop (mpos rev (m.seq k).length p)) := by
    have d := dir_ins rev ((m.seq k).map s) m'.cnt p (by simpa using hp)
    rw [List.length_map] at d
    rw [h.seq k hk, ← d, List.map_append, List.map_cons, upd_same, List.map_take, List.map_drop]
    rw [smap_upd (fun x hx => h.lt k x hx)]
  rw [e] at h1
  exact h1
theorem Sim.without (h : Sim rev V r l s m m') {k e : Nat} (hk : m.isL k = true) (he : e ∈ m.seq k) : (m'.seq (l k)).filter (fun x => decide (x ≠ s e)) = dir rev (((m.seq k).filter fun x => decide (x ≠ e)).map s) := by
  rw [h.seq k hk, dir_filter, List.filter_map]
  congr 2
  refine List.filter_congr (fun x hx => ?_)
  simp only [Function.comp]
  refine decide_eq_decide.2 (not_congr ⟨fun q => h.sinj x e (h.lt k x hx) (h.lt k e he) q, fun q => by rw [q]⟩)
theorem Sim.mv (h : Sim rev V r l s m m') {k e p : Nat} (hk : m.isL k = true) (he : e ∈ m.seq k) (hp : p ≤ ((m.seq k).filter fun x => decide (x ≠ e)).length) :
    Sim rev V r l s ((m.take k e).put k p e) ((m'.take (l k) (s e)).put (l k) (mpos rev ((m.seq k).filter fun x => decide (x ≠ e)).length p) (s e)) := by
  rw [take_put, take_put]
  have h1 := h.setSeq hk (t := ((m.seq k).filter fun x => decide (x ≠ e)).take p ++ e :: ((m.seq k).filter fun x => decide (x ≠ e)).drop p) (by
    intro x hx
    rcases List.mem_append.1 hx with q | q
    · exact h.lt k x (List.mem_filter.1 (List.mem_of_mem_take q)).1
    · rcases List.mem_cons.1 q with q | q
      · rw [q]; exact h.lt k e he
      · exact h.lt k x (List.mem_filter.1 (List.mem_of_mem_drop q)).1)
  have d := dir_ins rev (((m.seq k).filter fun x => decide (x ≠ e)).map s) (s e) p (by simpa using hp)
  rw [List.length_map] at d
  rw [h.without hk he, ← d]
  rw [List.map_append, List.map_cons, List.map_take, List.map_drop] at h1
  exact h1
theorem Sim.drop (h : Sim rev V r l s m m') {k e : Nat} (hk : m.isL k = true) (he : e ∈ m.seq k) : Sim rev V r l s (m.drop k e) (m'.drop (l k) (s e)) := by
  have h1 := h.setSeq hk (t := (m.seq k).filter fun x => decide (x ≠ e)) (fun x hx => h.lt k x (List.mem_filter.1 hx).1)
  rw [← h.without hk he] at h1
  exact h1.setInn (e := e) (h.lt k e he) none

/-- How the copies of xs are numbered. -/
def scopy (rev : Bool) (s : Nat → Nat) (c c' n : Nat) (e : Nat) : Nat := if c ≤ e ∧ e < c + n then (if rev then c' + (n - 1 - (e - c)) else c' + (e - c)) else s e
theorem scopy_old {c c' n e : Nat} (h : e < c) : scopy rev s c c' n e = s e := by unfold scopy; rw [if_neg (by omega)]
theorem scopy_range (c c' n : Nat) : dir rev ((List.range' c n).map (scopy rev s c c' n)) = List.range' c' n := by
  apply List.ext_getElem?
  intro j
  by_cases hj : j < n
  · cases rev
    · simp only [dir, Bool.false_eq_true, if_false, List.getElem?_map, List.getElem?_range' hj, Option.map_some]
      simp [scopy, hj]
    · simp only [dir, if_true]
      rw [List.getElem?_reverse (by simpa using hj)]
      simp only [List.length_map, List.length_range', List.getElem?_map]
      rw [List.getElem?_range' (by omega), List.getElem?_range' hj]
      simp only [Option.map_some, scopy]
      rw [if_pos (by omega)]
      simp only [if_true]
      congr 1
      omega
  · rw [List.getElem?_eq_none (by rw [dir_length]; simp; omega), List.getElem?_eq_none (by simp; omega)]
theorem Sim.copy (h : Sim rev V r l s m m') {k : Nat} {xs : List Nat} (hxs : ∀ x ∈ xs, x < m.cnt) : Sim rev V r l (scopy rev s m.cnt m'.cnt xs.length) (m.copy k xs) (m'.copy (l k) (dir rev (xs.map s))) := by
  have ln : (dir rev (xs.map s)).length = xs.length := by rw [dir_length, List.length_map]
  have new : ∀ e, m.cnt ≤ e → e < m.cnt + xs.length → m'.cnt ≤ scopy rev s m.cnt m'.cnt xs.length e ∧ scopy rev s m.cnt m'.cnt xs.length e < m'.cnt + xs.length := fun e a b => by
    unfold scopy; rw [if_pos ⟨a, b⟩]; cases rev <;> simp <;> omega
  refine ⟨h.rlt, h.isl, h.linj, fun e he => ?_, fun e f he hf q => ?_, fun a ha => ?_, fun i e q => ?_, fun e he => ?_, fun e he => ?_, fun e he => ?_, fun e he => ?_, fun a e he => ?_, fun e he => ?_, fun e he => ?_, fun i e q => ?_⟩
  · simp only [Md.copy, ln] at he ⊢
    by_cases q : e < m.cnt
    · rw [scopy_old q]; have := h.slt e q; omega
    · have := new e (by omega) he; omega
  · simp only [Md.copy] at he hf
    by_cases a : e < m.cnt
    · by_cases b : f < m.cnt
      · rw [scopy_old a, scopy_old b] at q; exact h.sinj e f a b q
      · have := new f (by omega) hf; rw [scopy_old a] at q; have := h.slt e a; omega
    · by_cases b : f < m.cnt
      · have := new e (by omega) he; rw [scopy_old b] at q; have := h.slt f b; omega
      · unfold scopy at q
        rw [if_pos (show m.cnt ≤ e ∧ e < m.cnt + xs.length by omega), if_pos (show m.cnt ≤ f ∧ f < m.cnt + xs.length by omega)] at q
        cases rev
        · simp only [Bool.false_eq_true, if_false] at q; omega
        · simp only [if_true] at q; omega
  · simp only [Md.copy] at ha ⊢
    rw [h.seq a ha]
    congr 1
    exact List.map_congr_left (fun x hx => (scopy_old (h.lt a x hx)).symm)
  · simp only [Md.copy] at q ⊢
    rw [scopy_old (h.rlo i e q)]; exact h.ret i e q
  · simp only [Md.copy, ln] at he ⊢
    by_cases q : e < m.cnt
    · have := h.slt e q
      rw [scopy_old q, if_neg (by omega), if_neg (by omega)]; exact h.inn e q
    · have := new e (by omega) he
      rw [if_pos this, if_pos (by omega)]; rfl
  · simp only [Md.copy] at he ⊢
    by_cases q : e < m.cnt
    · rw [scopy_old q]; exact h.clr e q
    · rw [(h.out e (by omega)).1, (h.out' _ (new e (by omega) he).1).1]; rfl
  · simp only [Md.copy] at he ⊢
    by_cases q : e < m.cnt
    · rw [scopy_old q]; exact h.fst e q
    · rw [(h.out e (by omega)).2, (h.out' _ (new e (by omega) he).1).2]; rfl
  · simp only [Md.copy, ln] at he ⊢
    by_cases q : e < m.cnt
    · have := h.slt e q
      rw [if_neg (by omega), scopy_old q, if_neg (by omega)]; exact h.val e q
    · have nn := new e (by omega) he
      rw [if_pos (by omega), if_pos nn]
      have hj : e - m.cnt < xs.length := by omega
      have e1 : (dir rev (xs.map s)).getD (scopy rev s m.cnt m'.cnt xs.length e - m'.cnt) 0 = s (xs.getD (e - m.cnt) 0) := by
        have g := dir_get rev (xs.map s) (j := e - m.cnt) (by simpa using hj)
        rw [List.length_map, List.getElem?_map, List.getElem?_eq_getElem hj] at g
        have i1 : scopy rev s m.cnt m'.cnt xs.length e - m'.cnt = if rev then xs.length - 1 - (e - m.cnt) else e - m.cnt := by
          unfold scopy; rw [if_pos (by omega)]; cases rev <;> simp <;> omega
        rw [i1, List.getD_eq_getElem?_getD, g, List.getD_eq_getElem?_getD, List.getElem?_eq_getElem hj]; rfl
      rw [e1]
      refine h.val _ (hxs _ ?_)
      rw [List.getD_eq_getElem?_getD, List.getElem?_eq_getElem hj]
      exact List.getElem_mem hj
  · simp only [Md.copy] at he ⊢; have := h.lt a e he; omega
  · simp only [Md.copy] at he ⊢; exact h.out e (by omega)
  · simp only [Md.copy, ln] at he ⊢; exact h.out' e (by omega)
  · simp only [Md.copy] at q ⊢; have := h.rlo i e q; omega
end
end Bead
end Go.Proofs.Ytidnmanljdadaaa

/- Plain laws: one run of the model follows another: a whole call. -/
namespace Go.Proofs.Ytidnmanljdadaaa
namespace Bead

structure CSim (rev : Bool) (V : Vl → Vl → Prop) (r l : Nat → Nat) (c c' : Cl) : Prop where
  op : c'.op = mop rev c.op
  list : 3 ≤ c.op → c.op ≤ 17 → 0 ≤ c.list → c'.list = (l c.list.toNat : Nat)
  other : c.op = 12 ∨ c.op = 13 → 0 ≤ c.other → c'.other = (l c.other.toNat : Nat)
  elem : (7 ≤ c.op ∧ c.op ≤ 11) ∨ 18 ≤ c.op → 0 ≤ c.elem → c'.elem = (r c.elem.toNat : Nat)
  mark : c.op = 5 ∨ c.op = 6 ∨ c.op = 9 ∨ c.op = 10 → 0 ≤ c.mark → c'.mark = (r c.mark.toNat : Nat)
  val : c.op = 2 ∨ c.op = 3 ∨ c.op = 4 ∨ c.op = 5 ∨ c.op = 6 ∨ c.op = 21 → V (canon c.v) (canon c'.v)
def ASim (V : Vl → Vl → Prop) (r : Nat → Nat) (op : Int) (a a' : An) : Prop :=
  a'.n = a.n ∧ ((a.elem = -1 ∧ a'.elem = -1) ∨ ∃ i : Nat, a.elem = (i : Nat) ∧ a'.elem = (r i : Nat)) ∧ (if op = 11 ∨ op = 20 then V a.v a'.v else a.v = Vl.zero ∧ a'.v = Vl.zero)
theorem ASim.no {V : Vl → Vl → Prop} {r : Nat → Nat} {op : Int} (h : ¬ (op = 11 ∨ op = 20)) : ASim V r op An.no An.no := ⟨rfl, .inl ⟨rfl, rfl⟩, by rw [if_neg h]; exact ⟨rfl, rfl⟩⟩

section
variable (m : Md) {c : Cl}
theorem step_3 (h : c.op = 3) : m.step c = ((m.grow.make c.v (some c.list.toNat)).put c.list.toNat 0 m.cnt).answer m.len (some m.cnt) := by simp [Md.step, Md.change, h, Md.grow]
theorem step_4 (h : c.op = 4) : m.step c = ((m.grow.make c.v (some c.list.toNat)).put c.list.toNat (m.seq c.list.toNat).length m.cnt).answer m.len (some m.cnt) := by simp [Md.step, Md.change, h, Md.grow]
theorem step_5 (h : c.op = 5) : m.step c = m.grow.insert m.len c 0 := by simp [Md.step, Md.change, h]
theorem step_6 (h : c.op = 6) : m.step c = m.grow.insert m.len c 1 := by simp [Md.step, Md.change, h]
theorem step_mv (h : c.op = 7 ∨ c.op = 8 ∨ c.op = 9 ∨ c.op = 10) : m.step c = (m.grow.move c, An.no) := by rcases h with h | h | h | h <;> simp [Md.step, Md.change, h]
theorem step_11 (h : c.op = 11) : m.step c = m.grow.remove c := by simp [Md.step, Md.change, h]
theorem step_cp (h : c.op = 12 ∨ c.op = 13) : m.step c = (m.grow.copies c, An.no) := by rcases h with h | h <;> simp [Md.step, Md.change, h]
theorem step_14 (h : c.op = 14) : m.step c = (m.grow.clear c.list.toNat, An.no) := by simp [Md.step, Md.change, h]
theorem step_01 (h : c.op = 0 ∨ c.op = 1) : m.step c = ({ m.grow with isL := upd m.isL m.len true }, An.no) := by rcases h with h | h <;> simp [Md.step, Md.look, h, Md.grow]
theorem step_2 (h : c.op = 2) : m.step c = (m.grow.make c.v none).answer m.len (some m.cnt) := by simp [Md.step, Md.look, h, Md.grow]
theorem step_15 (h : c.op = 15) : m.step c = m.grow.answer m.len (m.seq c.list.toNat).head? := by simp [Md.step, Md.look, h, Md.grow]
theorem step_16 (h : c.op = 16) : m.step c = m.grow.answer m.len (m.seq c.list.toNat).getLast? := by simp [Md.step, Md.look, h, Md.grow]
theorem step_17 (h : c.op = 17) : m.step c = (m.grow, ⟨-1, (m.seq c.list.toNat).length, Vl.zero⟩) := by simp [Md.step, Md.look, h, Md.grow]
theorem step_18 (h : c.op = 18) {e : Nat} (hr : m.ret c.elem.toNat = some e) : m.step c = m.grow.answer m.len (m.next e) := by simp [Md.step, Md.look, h, Md.grow, hr]; rfl
theorem step_19 (h : c.op = 19) {e : Nat} (hr : m.ret c.elem.toNat = some e) : m.step c = m.grow.answer m.len (m.prev e) := by simp [Md.step, Md.look, h, Md.grow, hr]; rfl
theorem step_20 (h : c.op = 20) {e : Nat} (hr : m.ret c.elem.toNat = some e) : m.step c = (m.grow, ⟨-1, 0, m.val e⟩) := by simp [Md.step, Md.look, h, Md.grow, hr]
theorem step_21 (h : c.op = 21) {e : Nat} (hr : m.ret c.elem.toNat = some e) : m.step c = ({ m.grow with val := upd m.val e (canon c.v) }, An.no) := by simp [Md.step, Md.look, h, Md.grow, hr]
end

section
variable {rev : Bool} {V : Vl → Vl → Prop} {r l s : Nat → Nat} {m m' : Md} {c c' : Cl} {most : Nat}
theorem Sim.answer (h : Sim rev V r l s m m') {i : Nat} {o : Option Nat} (ho : ∀ e, o = some e → e < m.cnt) (hi : ∀ j x, m.ret j = some x → r j ≠ r i) {op : Int} (hop : ¬ (op = 11 ∨ op = 20)) :
    Sim rev V r l s (m.answer i o).1 (m'.answer (r i) (o.map s)).1 ∧ ASim V r op (m.answer i o).2 (m'.answer (r i) (o.map s)).2 := by
  cases o with
  | none => exact ⟨h, ASim.no hop⟩
  | some e =>
    have he := ho e rfl
    refine ⟨h.give he hi, ?_⟩
    show ASim V r op (m.num i e) (m'.num (r i) (s e))
    rw [h.num he]
    exact ⟨rfl, .inr ⟨_, rfl, rfl⟩, by rw [if_neg hop]; exact ⟨rfl, rfl⟩⟩

/-- What the step gives: the new map of elements. -/
def Stepped (rev : Bool) (V : Vl → Vl → Prop) (r l s : Nat → Nat) (m m' : Md) (op : Int) (p p' : Md × An) : Prop :=
  ∃ s', Sim rev V r l s' p.1 p'.1 ∧ (∀ e, e < m.cnt → s' e = s e) ∧ (∀ e, m.cnt ≤ e → e < p.1.cnt → m'.cnt ≤ s' e) ∧ p'.1.cnt + m.cnt = p.1.cnt + m'.cnt ∧ ASim V r op p.2 p'.2

theorem answer_cnt (m : Md) (i : Nat) (o : Option Nat) : (m.answer i o).1.cnt = m.cnt := by cases o <;> rfl

theorem Sim.pushed (h : Sim rev V r l s m m') (hr : r m.len = m'.len) (hw : WF m) {k p : Nat} (hk : m.isL k = true) (hp : p ≤ (m.seq k).length) {v v' : Vl} (hv : V (canon v) (canon v')) {op : Int} (hop : ¬ (op = 11 ∨ op = 20)) :
    Stepped rev V r l s m m' op (((m.grow.make v (some k)).put k p m.cnt).answer m.len (some m.cnt)) (((m'.grow.make v' (some (l k))).put (l k) (mpos rev (m.seq k).length p) m'.cnt).answer m'.len (some m'.cnt)) := by
  have h1 := (h.grow hr).ins (k := k) (p := p) hk hp hv
  have hi : ∀ j x, ((m.grow.make v (some k)).put k p m.cnt).ret j = some x → r j ≠ r m.len := fun j x q => by
    have := h.rlt j (hw.rlt j x q).1; rw [hr]; omega
  have h2 := h1.answer (i := m.len) (o := some m.cnt) (fun e q => by simp at q; subst q; exact Nat.lt_succ_self _) hi (op := op) hop
  have e : (some m.cnt).map (upd s m.grow.cnt m'.grow.cnt) = some m'.cnt := by
    show some (upd s m.cnt m'.cnt m.cnt) = _
    rw [upd_same]
  rw [e, hr] at h2
  refine ⟨_, h2.1, fun e he => upd_other _ _ (by show ¬ e = m.cnt; omega), fun e a b => ?_, by rw [answer_cnt, answer_cnt]; show m'.cnt + 1 + m.cnt = m.cnt + 1 + m'.cnt; omega, h2.2⟩
  rw [answer_cnt] at b
  have : e = m.cnt := by have b' : e < m.cnt + 1 := b; omega
  subst this
  show m'.cnt ≤ upd s m.cnt m'.cnt m.cnt
  rw [upd_same]; exact Nat.le_refl _
theorem Stepped.keep {op : Int} {p p' : Md × An} (h : Sim rev V r l s p.1 p'.1) (hc : p.1.cnt = m.cnt) (hc' : p'.1.cnt = m'.cnt) (ha : ASim V r op p.2 p'.2) : Stepped rev V r l s m m' op p p' :=
  ⟨s, h, fun _ _ => rfl, fun e a b => by omega, by omega, ha⟩

theorem Sim.hi (h : Sim rev V r l s m m') (hw : WF m) (hr : r m.len = m'.len) : ∀ j x, m.ret j = some x → r j ≠ r m.len := fun j x q => by
  have := h.rlt j (hw.rlt j x q).1; rw [hr]; omega

theorem Sim.inserted (h : Sim rev V r l s m m') (hw : WF m) (hr : r m.len = m'.len) {k n x b b' : Nat} (hk : m.isL k = true) (hn : c.mark.toNat = n) (hx : m.ret n = some x) (hlc : c.list.toNat = k) (hn' : c'.mark.toNat = r n) (hlc' : c'.list.toNat = l k) (hv : V (canon c.v) (canon c'.v))
    (hb : b ≤ 1) (hb' : b' = if rev then 1 - b else b) {op : Int} (hop : ¬ (op = 11 ∨ op = 20)) : Stepped rev V r l s m m' op (m.grow.insert m.len c b) (m'.grow.insert m'.len c' b') := by
  have hx' : m'.ret (r n) = some (s x) := h.ret n x hx
  have hxc := h.rlo n x hx
  unfold Md.insert
  rw [hn, hn', hlc, hlc']
  show Stepped rev V r l s m m' op (match m.ret n with | none => _ | some k_1 => _) (match m'.ret (r n) with | none => _ | some k_1 => _)
  rw [hx, hx']
  show Stepped rev V r l s m m' op (if x ∈ m.seq k then _ else _) (if s x ∈ m'.seq (l k) then _ else _)
  by_cases q : x ∈ m.seq k
  · rw [if_pos q, if_pos ((h.mem hk hxc).2 q)]
    have hj := List.idxOf_lt_length_of_mem q
    have e : (m'.seq (l k)).idxOf (s x) + b' = mpos rev (m.seq k).length ((m.seq k).idxOf x + b) := by
      rw [h.idx hk (hw.nodup k) q, hb']
      cases rev
      · simp [mpos]
      · simp only [mpos, if_true]; omega
    have := h.pushed hr hw hk (p := (m.seq k).idxOf x + b) (by omega) hv (op := op) hop
    rw [← e] at this
    exact this
  · rw [if_neg q, if_neg (fun z => q ((h.mem hk hxc).1 z))]
    exact Stepped.keep (h.grow hr) rfl rfl (ASim.no hop)

theorem Sim.moved (h : Sim rev V r l s m m') (hw : WF m) (hr : r m.len = m'.len) (hop : c.op = 7 ∨ c.op = 8 ∨ c.op = 9 ∨ c.op = 10) (hop' : c'.op = mop rev c.op) {k n e : Nat} (hk : m.isL k = true) (hn : c.elem.toNat = n) (he : m.ret n = some e) (hlc : c.list.toNat = k) (hn' : c'.elem.toNat = r n) (hlc' : c'.list.toNat = l k)
    (hmk : c.op = 9 ∨ c.op = 10 → ∃ x, m.ret c.mark.toNat = some x ∧ c'.mark.toNat = r c.mark.toNat) : Stepped rev V r l s m m' c.op (m.grow.move c, An.no) (m'.grow.move c', An.no) := by
  have hg := h.grow hr
  have he' : m'.ret (r n) = some (s e) := h.ret n e he
  have hec := h.rlo n e he
  have hno : ASim V r c.op An.no An.no := ASim.no (by omega)
  have hcnt' : (m'.grow.move c').cnt = m'.cnt := by
    unfold Md.move Md.moveTo
    (repeat' split) <;> rfl
  suffices hS : Sim rev V r l s (m.grow.move c) (m'.grow.move c') ∧ (m.grow.move c).cnt = m.cnt from Stepped.keep (p := (m.grow.move c, An.no)) (p' := (m'.grow.move c', An.no)) hS.1 hS.2 hcnt' hno
  have hcnt : (m.grow.move c).cnt = m.cnt := by
    unfold Md.move Md.moveTo
    (repeat' split) <;> rfl
  refine ⟨?_, hcnt⟩
  unfold Md.move
  rw [hn, hn', hlc, hlc']
  show Sim rev V r l s (match m.ret n with | none => _ | some e => _) (match m'.ret (r n) with | none => _ | some e => _)
  rw [he, he']
  show Sim rev V r l s (if e ∈ m.seq k then _ else _) (if s e ∈ m'.seq (l k) then _ else _)
  by_cases q : e ∈ m.seq k
  · rw [if_pos q, if_pos ((h.mem hk hec).2 q)]
    have LW : (((m'.grow.take (l k) (s e)).seq (l k))).length = ((m.seq k).filter fun x => decide (x ≠ e)).length := by
      simp only [Md.take, Md.setSeq, upd_same]
      show ((m'.seq (l k)).filter fun x => decide (x ≠ s e)).length = _
      rw [h.without hk q, dir_length, List.length_map]
    have LV : ((m.grow.take k e).seq k).length = ((m.seq k).filter fun x => decide (x ≠ e)).length := by simp only [Md.take, Md.setSeq, upd_same]; rfl
    have front := hg.mv (k := k) (e := e) (p := 0) hk q (Nat.zero_le _)
    have back := hg.mv (k := k) (e := e) (p := ((m.seq k).filter fun x => decide (x ≠ e)).length) hk q (Nat.le_refl _)
    have e1 : mpos rev ((m.grow.seq k).filter fun x => decide (x ≠ e)).length 0 = if rev then ((m.seq k).filter fun x => decide (x ≠ e)).length else 0 := by cases rev <;> rfl
    have e2 : mpos rev ((m.grow.seq k).filter fun x => decide (x ≠ e)).length ((m.seq k).filter fun x => decide (x ≠ e)).length = if rev then 0 else ((m.seq k).filter fun x => decide (x ≠ e)).length := by cases rev <;> simp [mpos, Md.grow]
    rw [e1] at front
    rw [e2] at back
    rcases hop with o | o | o | o
    · unfold Md.moveTo
      rw [if_pos o]
      cases rev
      · rw [if_pos (by rw [hop', o]; rfl)]; exact front
      · rw [if_neg (by rw [hop', o]; decide), if_pos (by rw [hop', o]; rfl), LW]; exact front
    · unfold Md.moveTo
      rw [if_neg (by omega), if_pos o, LV]
      cases rev
      · rw [if_neg (by rw [hop', o]; decide), if_pos (by rw [hop', o]; rfl), LW]; exact back
      · rw [if_pos (by rw [hop', o]; rfl)]; exact back
    all_goals
      obtain ⟨x, hx, hmk'⟩ := hmk (by omega)
      have hx' : m'.ret (r c.mark.toNat) = some (s x) := h.ret _ x hx
      have hxc := h.rlo _ x hx
      have o' : ¬ c'.op = 7 ∧ ¬ c'.op = 8 := by rw [hop', o]; cases rev <;> decide
      unfold Md.moveTo
      rw [if_neg (by omega), if_neg (by omega), if_neg o'.1, if_neg o'.2, hmk']
      show Sim rev V r l s (match m.ret c.mark.toNat with | none => _ | some e => _) (match m'.ret (r c.mark.toNat) with | none => _ | some e => _)
      rw [hx, hx']
      show Sim rev V r l s (if x = e ∨ x ∉ m.seq k then _ else _) (if s x = s e ∨ s x ∉ m'.seq (l k) then _ else _)
      by_cases z : x = e ∨ x ∉ m.seq k
      · rw [if_pos z, if_pos (by
          rcases z with z | z
          · exact .inl (by rw [z])
          · exact .inr (fun y => z ((h.mem hk hxc).1 y)))]
        exact hg
      · have z1 : ¬ x = e := fun y => z (.inl y)
        have z2 : x ∈ m.seq k := Classical.byContradiction (fun y => z (.inr y))
        have zz : ¬ (s x = s e ∨ s x ∉ m'.seq (l k)) := by
          rintro (y | y)
          · exact z1 (h.sinj x e hxc hec y)
          · exact y ((h.mem hk hxc).2 z2)
        rw [if_neg z, if_neg zz]
        have ht := hg.setSeq (k := k) hk (t := (m.seq k).filter fun x => decide (x ≠ e)) (fun y hy => h.lt k y (List.mem_filter.1 hy).1)
        have ht2 : Sim rev V r l s (m.grow.take k e) (m'.grow.take (l k) (s e)) := by
          have := h.without hk q
          unfold Md.take
          show Sim rev V r l s (m.grow.setSeq k ((m.seq k).filter fun x => decide (x ≠ e))) (m'.grow.setSeq (l k) ((m'.seq (l k)).filter fun x => decide (x ≠ s e)))
          rw [this]; exact ht
        have sq : (m.grow.take k e).seq k = (m.seq k).filter fun x => decide (x ≠ e) := by simp only [Md.take, Md.setSeq, upd_same]; rfl
        have xin : x ∈ (m.grow.take k e).seq k := by rw [sq]; simp [z1, z2]
        have ix := ht2.idx (k := k) (e := x) hk (by rw [sq]; exact (hw.nodup k).filter _) xin
        have jl := List.idxOf_lt_length_of_mem xin
        rw [ix, sq]
        rw [sq] at jl
        have b := hg.mv (k := k) (e := e) (p := ((m.seq k).filter fun x => decide (x ≠ e)).idxOf x + if c.op = 10 then 1 else 0) hk q (by
          show _ ≤ ((m.seq k).filter fun x => decide (x ≠ e)).length
          split <;> omega)
        have ee : (if rev = true then ((m.seq k).filter fun x => decide (x ≠ e)).length - 1 - ((m.seq k).filter fun x => decide (x ≠ e)).idxOf x else ((m.seq k).filter fun x => decide (x ≠ e)).idxOf x) + (if c'.op = 10 then 1 else 0) =
            mpos rev ((m.grow.seq k).filter fun x => decide (x ≠ e)).length (((m.seq k).filter fun x => decide (x ≠ e)).idxOf x + if c.op = 10 then 1 else 0) := by
          show _ = mpos rev ((m.seq k).filter fun x => decide (x ≠ e)).length _
          cases rev
          · simp only [Bool.false_eq_true, if_false, mpos, hop', mop]
          · simp only [if_true, mpos, hop', mop, o, mir]
            first
              | (simp only [show ¬ (9 : Int) = 10 by decide, if_false, if_true, show ¬ (9 : Int) = 3 by decide, show ¬ (9 : Int) = 4 by decide, show ¬ (9 : Int) = 5 by decide, show ¬ (9 : Int) = 6 by decide, show ¬ (9 : Int) = 7 by decide, show ¬ (9 : Int) = 8 by decide]; omega)
              | (simp only [if_true, if_false, show ¬ (9 : Int) = 10 by decide, show ¬ (10 : Int) = 9 by decide, show ¬ (10 : Int) = 3 by decide, show ¬ (10 : Int) = 4 by decide, show ¬ (10 : Int) = 5 by decide, show ¬ (10 : Int) = 6 by decide, show ¬ (10 : Int) = 7 by decide, show ¬ (10 : Int) = 8 by decide]; omega)
        rw [ee]
        exact b
  · rw [if_neg q, if_neg (fun z => q ((h.mem hk hec).1 z))]
    exact hg
end
end Bead
end Go.Proofs.Ytidnmanljdadaaa

/- Plain laws: one run of the model follows another: whole scripts. -/
namespace Go.Proofs.Ytidnmanljdadaaa
namespace Bead

theorem mop_facts (rev : Bool) {op : Int} (h0 : 0 ≤ op) (h1 : op < 22) : 0 ≤ mop rev op ∧ mop rev op < 22 ∧ ((3 ≤ mop rev op ∧ mop rev op ≤ 17) ↔ (3 ≤ op ∧ op ≤ 17)) ∧ ((mop rev op = 12 ∨ mop rev op = 13) ↔ (op = 12 ∨ op = 13)) ∧ (((7 ≤ mop rev op ∧ mop rev op ≤ 11) ∨ 18 ≤ mop rev op) ↔ ((7 ≤ op ∧ op ≤ 11) ∨ 18 ≤ op)) ∧
    ((mop rev op = 5 ∨ mop rev op = 6 ∨ mop rev op = 9 ∨ mop rev op = 10) ↔ (op = 5 ∨ op = 6 ∨ op = 9 ∨ op = 10)) ∧ ((mop rev op = 18 ∨ mop rev op = 19) ↔ (op = 18 ∨ op = 19)) ∧ ((mop rev op = 20 ∨ mop rev op = 21) ↔ (op = 20 ∨ op = 21)) ∧
    ((mop rev op = 2 ∨ mop rev op = 3 ∨ mop rev op = 4 ∨ mop rev op = 5 ∨ mop rev op = 6) ↔ (op = 2 ∨ op = 3 ∨ op = 4 ∨ op = 5 ∨ op = 6)) ∧ ((mop rev op = 5 ∨ mop rev op = 6) ↔ (op = 5 ∨ op = 6)) := by
  cases rev
  · exact ⟨h0, h1, Iff.rfl, Iff.rfl, Iff.rfl, Iff.rfl, Iff.rfl, Iff.rfl, Iff.rfl, Iff.rfl⟩
  · simp only [mop, if_true, mir]
    (repeat' split) <;> omega

theorem nat_of {n : Int} (h : 0 ≤ n) : ((n.toNat : Nat) : Int) = n := by omega

section
variable {rev : Bool} {V : Vl → Vl → Prop} {r l s : Nat → Nat} {m m' : Md} {c c' : Cl} {most most' : Nat}

theorem Sim.stale (h : Sim rev V r l s m m') (hw : WF m) (hp : Permitted most m c) (hc : CSim rev V r l c c') {n n' : Int} {e : Nat} (hr : m.ret n.toNat = some e) (hn : n' = (r n.toNat : Nat)) (hu : c.op ≤ 17 → 3 ≤ c.op) (hs : m.stale c n = false) : m'.stale c' n' = false := by
  obtain ⟨f0, f1, f2, f3, f4, f5, f6, f7, f8, _⟩ := mop_facts rev hp.lo hp.hi
  rw [← hc.op] at f2 f6 f7
  have hr' : m'.ret n'.toNat = some (s e) := by rw [hn, Int.toNat_natCast]; exact h.ret _ e hr
  have hcl := h.clr e (h.rlo _ e hr)
  unfold Md.stale at hs ⊢
  rw [hr]  at hs
  rw [hr']
  simp only at hs ⊢
  cases hk : m.clr e with
  | none => rw [hk] at hcl; simp only [Option.map_none] at hcl; rw [hcl]
  | some k =>
    rw [hk] at hcl hs
    simp only [Option.map_some] at hcl
    rw [hcl]
    simp only at hs ⊢
    by_cases q : c.op = 20 ∨ c.op = 21
    · rw [if_pos (f7.2 q)]
    · rw [if_neg q] at hs
      rw [if_neg (fun z => q (f7.1 z))]
      simp only [Bool.or_eq_false_iff, decide_eq_false_iff_not] at hs ⊢
      have n18 : ¬ (c'.op = 18 ∨ c'.op = 19) := fun z => by have := f6.1 z; omega
      refine ⟨⟨fun z => n18 (.inl z), fun z => n18 (.inr z)⟩, fun z => ?_⟩
      have hlo := hp.hi
      have h17 : c.op ≤ 17 := by omega
      have h3 := hu h17
      have hL := hp.list h3 h17
      rw [hc.list h3 h17 (hp.list h3 h17).1] at z
      have z1 : l k = l c.list.toNat := by exact_mod_cast z
      have := h.linj k c.list.toNat (hw.clr e k hk).2 hL.2.2 z1
      have := nat_of hL.1
      omega
theorem Sim.perm (h : Sim rev V r l s m m') (hw : WF m) (hw' : WF m') (hp : Permitted most m c) (hc : CSim rev V r l c c') (hroom : ∀ n, m.cnt + n ≤ most → m'.cnt + n ≤ most') : Permitted most' m' c' := by
  obtain ⟨f0, f1, f2, f3, f4, f5, f6, f7, f8, _⟩ := mop_facts rev hp.lo hp.hi
  rw [← hc.op] at f0 f1 f2 f3 f4 f5 f6 f7 f8
  have lst : ∀ (n n' : Int), n' = (l n.toNat : Nat) → m.isL n.toNat = true → 0 ≤ n' ∧ n' < m'.len ∧ m'.isL n'.toNat = true := fun n n' e hn => by
    have q := h.isl _ hn
    have q2 := hw'.isl _ q
    rw [e, Int.toNat_natCast]
    exact ⟨by omega, by omega, q⟩
  have elm : ∀ (n n' : Int), n' = (r n.toNat : Nat) → (0 ≤ n ∧ n < m.len ∧ ∃ e, m.ret n.toNat = some e) → 0 ≤ n' ∧ n' < m'.len ∧ ∃ e, m'.ret n'.toNat = some e := fun n n' e hn => by
    obtain ⟨a, b, x, hx⟩ := hn
    have q2 := h.rlt n.toNat (by omega)
    rw [e, Int.toNat_natCast]
    exact ⟨by omega, by omega, _, h.ret _ x hx⟩
  refine ⟨f0, f1, fun a b => ?_, fun a => ?_, fun a => ?_, fun a => ?_, fun a => ?_, fun a => ?_, fun a => ?_, fun a => ?_⟩
  · obtain ⟨a, b⟩ := f2.1 ⟨a, b⟩
    exact lst _ _ (hc.list a b (hp.list a b).1) (hp.list a b).2.2
  · have a := f3.1 a
    exact lst _ _ (hc.other a (hp.other a).1) (hp.other a).2.2
  · have a := f4.1 a
    exact elm _ _ (hc.elem a (hp.elem a).1) (hp.elem a)
  · have a := f5.1 a
    exact elm _ _ (hc.mark a (hp.mark a).1) (hp.mark a)
  · have a := f4.1 a
    obtain ⟨_, _, e, he⟩ := hp.elem a
    exact h.stale hw hp hc he (hc.elem a (hp.elem a).1) (by omega) (hp.staleE a)
  · have a := f5.1 a
    obtain ⟨_, _, e, he⟩ := hp.mark a
    exact h.stale hw hp hc he (hc.mark a (hp.mark a).1) (by omega) (hp.staleM a)
  · have a := f3.1 a
    rw [hc.other a (hp.other a).1, Int.toNat_natCast, h.len (hp.other a).2.2]
    exact hroom _ (hp.room a)
  · have a := f8.1 a
    exact hroom 1 (hp.space a)

theorem step_len (m : Md) (c : Cl) : (m.step c).1.len = m.len + 1 := by
  have ha : ∀ (m : Md) i o, (m.answer i o).1.len = m.len := fun m i o => by cases o <;> rfl
  have hi : ∀ (m : Md) i b, (m.insert i c b).1.len = m.len := by
    intro m i b
    unfold Md.insert
    split
    · rfl
    · split
      · rw [ha]; rfl
      · rfl
  unfold Md.step
  split
  · unfold Md.change
    (repeat' split)
    · exact ha _ _ _
    · exact ha _ _ _
    · exact hi _ _ _
    · exact hi _ _ _
    · unfold Md.move Md.moveTo
      (repeat' split) <;> rfl
    · unfold Md.remove
      split
      · rfl
      · dsimp only; split <;> rfl
    · rfl
    · rfl
    · rfl
  · unfold Md.look
    (repeat' split)
    all_goals first | exact ha _ _ _ | rfl
theorem step_cnt (m : Md) (c : Cl) : m.cnt ≤ (m.step c).1.cnt := by
  have hi : ∀ (m : Md) i b, m.cnt ≤ (m.insert i c b).1.cnt := by
    intro m i b
    unfold Md.insert
    split
    · exact Nat.le_refl _
    · split
      · rw [answer_cnt]; exact Nat.le_succ _
      · exact Nat.le_refl _
  unfold Md.step
  split
  · unfold Md.change
    (repeat' split)
    · rw [answer_cnt]; exact Nat.le_succ _
    · rw [answer_cnt]; exact Nat.le_succ _
    · exact hi m.grow _ _
    · exact hi m.grow _ _
    · unfold Md.move Md.moveTo
      (repeat' split) <;> exact Nat.le_refl _
    · unfold Md.remove
      split
      · exact Nat.le_refl _
      · dsimp only; split <;> exact Nat.le_refl _
    · exact Nat.le_add_right _ _
    · exact Nat.le_refl _
    · exact Nat.le_refl _
  · unfold Md.look
    (repeat' split)
    all_goals first | exact Nat.le_refl _ | (rw [answer_cnt]; first | exact Nat.le_refl _ | exact Nat.le_succ _)
theorem Sim.rloN (h : Sim rev V r l s m m') (hw : WF m) {e x : Nat} (q : m.next e = some x) : x < m.cnt := next_lt hw q
theorem Sim.rloP (h : Sim rev V r l s m m') (hw : WF m) {e x : Nat} (q : m.prev e = some x) : x < m.cnt := prev_lt hw q

theorem Sim.step (h : Sim rev V r l s m m') (hw : WF m) (hw' : WF m') (hp : Permitted most m c) (hc : CSim rev V r l c c') (hr : r m.len = m'.len) (hl : c.op = 0 ∨ c.op = 1 → l m.len = m'.len) : Stepped rev V r l s m m' c.op (m.step c) (m'.step c') := by
  have hi := h.hi hw hr
  have hg := h.grow hr
  have op' := hc.op
  have L : ∀ (a : 3 ≤ c.op) (b : c.op ≤ 17), c'.list.toNat = l c.list.toNat := fun a b => by rw [hc.list a b (hp.list a b).1, Int.toNat_natCast]
  have E : ((7 ≤ c.op ∧ c.op ≤ 11) ∨ 18 ≤ c.op) → ∃ e, m.ret c.elem.toNat = some e ∧ e < m.cnt ∧ c'.elem.toNat = r c.elem.toNat ∧ m'.ret c'.elem.toNat = some (s e) := fun a => by
    obtain ⟨_, _, e, he⟩ := hp.elem a
    have q : c'.elem.toNat = r c.elem.toNat := by rw [hc.elem a (hp.elem a).1, Int.toNat_natCast]
    exact ⟨e, he, h.rlo _ e he, q, by rw [q]; exact h.ret _ e he⟩
  have hlo := hp.lo
  have hhi := hp.hi
  by_cases o01 : c.op = 0 ∨ c.op = 1
  · have e' : c'.op = 0 ∨ c'.op = 1 := by rw [op']; rcases o01 with q | q <;> (rw [q]; cases rev <;> decide)
    rw [step_01 m o01, step_01 m' e']
    have n1 : m.isL m.len = false := by
      cases q : m.isL m.len with
      | false => rfl
      | true => have := hw.isl _ q; omega
    have n2 : m'.isL m'.len = false := by
      cases q : m'.isL m'.len with
      | false => rfl
      | true => have := hw'.isl _ q; omega
    have := hg.newL (n := m.len) n1 (by rw [hl o01]; exact n2) (hw.emp _ n1) (by rw [hl o01]; exact hw'.emp _ n2)
    rw [hl o01] at this
    exact Stepped.keep this rfl rfl (ASim.no (by omega))
  by_cases o2 : c.op = 2
  · have e' : c'.op = 2 := by rw [op', o2]; cases rev <;> decide
    rw [step_2 m o2, step_2 m' e']
    have h1 := (hg.make (hc.val (by omega)) none).answer (i := m.len) (o := some m.cnt) (fun e q => by simp at q; subst q; exact Nat.lt_succ_self _) hi (op := c.op) (by omega)
    have e : (some m.cnt).map (upd s m.grow.cnt m'.grow.cnt) = some m'.cnt := by
      show some (upd s m.cnt m'.cnt m.cnt) = _
      rw [upd_same]
    rw [e, hr] at h1
    refine ⟨_, h1.1, fun e he => upd_other _ _ (by show ¬ e = m.cnt; omega), fun e a b => ?_, by rw [answer_cnt, answer_cnt]; show m'.cnt + 1 + m.cnt = m.cnt + 1 + m'.cnt; omega, h1.2⟩
    rw [answer_cnt] at b
    have : e = m.cnt := by have b' : e < m.cnt + 1 := b; omega
    subst this
    show m'.cnt ≤ upd s m.cnt m'.cnt m.cnt
    rw [upd_same]; exact Nat.le_refl _
  by_cases o3 : c.op = 3
  · have lc := L (by omega) (by omega)
    have hk := (hp.list (by omega) (by omega)).2.2
    have b := h.pushed hr hw hk (p := 0) (Nat.zero_le _) (hc.val (by omega)) (op := c.op) (by omega)
    rw [step_3 m o3]
    cases rev
    · rw [step_3 m' (by rw [op', o3]; rfl), lc]; exact b
    · rw [step_4 m' (by rw [op', o3]; rfl), lc, h.len hk]; exact b
  by_cases o4 : c.op = 4
  · have lc := L (by omega) (by omega)
    have hk := (hp.list (by omega) (by omega)).2.2
    have b := h.pushed hr hw hk (p := (m.seq c.list.toNat).length) (Nat.le_refl _) (hc.val (by omega)) (op := c.op) (by omega)
    rw [step_4 m o4]
    cases rev
    · rw [step_4 m' (by rw [op', o4]; rfl), lc, h.len hk]; exact b
    · rw [step_3 m' (by rw [op', o4]; rfl), lc]
      have e : mpos true (m.seq c.list.toNat).length (m.seq c.list.toNat).length = 0 := by simp [mpos]
      rw [e] at b; exact b
  by_cases o56 : c.op = 5 ∨ c.op = 6
  · have lc := L (by omega) (by omega)
    have hk := (hp.list (by omega) (by omega)).2.2
    obtain ⟨_, _, x, hx⟩ := hp.mark (by omega)
    have hmk : c'.mark.toNat = r c.mark.toNat := by rw [hc.mark (by omega) (hp.mark (by omega)).1, Int.toNat_natCast]
    have b := fun (b b' : Nat) (hb : b ≤ 1) (hb' : b' = if rev then 1 - b else b) => h.inserted (c := c) (c' := c') hw hr hk rfl hx rfl hmk lc (hc.val (by omega)) hb hb' (op := c.op) (by omega)
    rcases o56 with o | o
    · rw [step_5 m o]
      cases rev
      · rw [step_5 m' (by rw [op', o]; rfl)]; exact b 0 0 (by decide) rfl
      · rw [step_6 m' (by rw [op', o]; rfl)]; exact b 0 1 (by decide) rfl
    · rw [step_6 m o]
      cases rev
      · rw [step_6 m' (by rw [op', o]; rfl)]; exact b 1 1 (by decide) rfl
      · rw [step_5 m' (by rw [op', o]; rfl)]; exact b 1 0 (by decide) rfl
  by_cases omv : c.op = 7 ∨ c.op = 8 ∨ c.op = 9 ∨ c.op = 10
  · have lc := L (by omega) (by omega)
    have hk := (hp.list (by omega) (by omega)).2.2
    obtain ⟨e, he, _, ec, _⟩ := E (by omega)
    have omv' : c'.op = 7 ∨ c'.op = 8 ∨ c'.op = 9 ∨ c'.op = 10 := by rw [op']; rcases omv with q | q | q | q <;> (rw [q]; cases rev <;> decide)
    rw [step_mv m omv, step_mv m' omv']
    exact h.moved hw hr omv op' hk rfl he rfl ec lc (fun q => by
      obtain ⟨_, _, x, hx⟩ := hp.mark (by omega)
      exact ⟨x, hx, by rw [hc.mark (by omega) (hp.mark (by omega)).1, Int.toNat_natCast]⟩)
  by_cases o11 : c.op = 11
  · have lc := L (by omega) (by omega)
    have hk := (hp.list (by omega) (by omega)).2.2
    obtain ⟨e, he, hec, ec, he'⟩ := E (by omega)
    rw [step_11 m o11, step_11 m' (by rw [op', o11]; cases rev <;> decide)]
    unfold Md.remove
    show Stepped rev V r l s m m' c.op (match m.ret c.elem.toNat with | none => _ | some e => _) (match m'.ret c'.elem.toNat with | none => _ | some e => _)
    rw [he, he', lc]
    refine Stepped.keep ?_ ?_ ?_ ⟨rfl, .inl ⟨rfl, rfl⟩, by rw [if_pos (.inl o11)]; exact h.val e hec⟩
    · show Sim rev V r l s (if e ∈ m.seq c.list.toNat then _ else _) (if s e ∈ m'.seq (l c.list.toNat) then _ else _)
      by_cases q : e ∈ m.seq c.list.toNat
      · rw [if_pos q, if_pos ((h.mem hk hec).2 q)]; exact hg.drop hk q
      · rw [if_neg q, if_neg (fun z => q ((h.mem hk hec).1 z))]; exact hg
    · show (if e ∈ m.seq c.list.toNat then _ else _ : Md).cnt = m.cnt
      split <;> rfl
    · show (if s e ∈ m'.seq (l c.list.toNat) then _ else _ : Md).cnt = m'.cnt
      split <;> rfl
  by_cases ocp : c.op = 12 ∨ c.op = 13
  · have lc := L (by omega) (by omega)
    have hk := (hp.list (by omega) (by omega)).2.2
    have ho := (hp.other ocp).2.2
    have oc : c'.other.toNat = l c.other.toNat := by rw [hc.other ocp (hp.other ocp).1, Int.toNat_natCast]
    have ocp' : c'.op = 12 ∨ c'.op = 13 := by rw [op']; rcases ocp with q | q <;> (rw [q]; cases rev <;> decide)
    rw [step_cp m ocp, step_cp m' ocp']
    have h1 := hg.copy (k := c.list.toNat) (xs := m.seq c.other.toNat) (fun x hx => h.lt _ x hx)
    have hso : dir rev ((m.seq c.other.toNat).map s) = m'.seq (l c.other.toNat) := (h.seq _ ho).symm
    rw [hso] at h1
    have h2 := h1.setSeq (k := c.list.toNat) hk (t := if c.op = 12 then m.seq c.list.toNat ++ List.range' m.cnt (m.seq c.other.toNat).length else List.range' m.cnt (m.seq c.other.toNat).length ++ m.seq c.list.toNat) (by
      intro x hx
      have hx2 : x ∈ m.seq c.list.toNat ∨ x ∈ List.range' m.cnt (m.seq c.other.toNat).length := by
        split at hx
        · exact List.mem_append.1 hx
        · exact (List.mem_append.1 hx).symm
      show x < m.cnt + (m.seq c.other.toNat).length
      rcases hx2 with q | q
      · have := h.lt _ x q; omega
      · rw [List.mem_range'_1] at q; exact q.2)
    have mapS : (m.seq c.list.toNat).map (scopy rev s m.cnt m'.cnt (m.seq c.other.toNat).length) = (m.seq c.list.toNat).map s := List.map_congr_left (fun x hx => scopy_old (h.lt _ x hx))
    have ee : dir rev ((if c.op = 12 then m.seq c.list.toNat ++ List.range' m.cnt (m.seq c.other.toNat).length else List.range' m.cnt (m.seq c.other.toNat).length ++ m.seq c.list.toNat).map (scopy rev s m.cnt m'.cnt (m.seq c.other.toNat).length)) =
        (if c'.op = 12 then m'.seq (l c.list.toNat) ++ List.range' m'.cnt (m'.seq (l c.other.toNat)).length else List.range' m'.cnt (m'.seq (l c.other.toNat)).length ++ m'.seq (l c.list.toNat)) := by
      rw [h.len ho, h.seq _ hk]
      have rr := scopy_range (rev := rev) (s := s) m.cnt m'.cnt (m.seq c.other.toNat).length
      have hlr : (m.grow).cnt = m.cnt := rfl
      rcases ocp with o | o
      · rw [if_pos o, List.map_append, mapS]
        cases rev
        · rw [if_pos (by rw [op', o]; rfl)]; simp only [dir, Bool.false_eq_true, if_false] at rr ⊢; rw [rr]
        · rw [if_neg (by rw [op', o]; decide)]; simp only [dir, if_true] at rr ⊢; rw [List.reverse_append, rr]
      · rw [if_neg (by omega), List.map_append, mapS]
        cases rev
        · rw [if_neg (by rw [op', o]; decide)]; simp only [dir, Bool.false_eq_true, if_false] at rr ⊢; rw [rr]
        · rw [if_pos (by rw [op', o]; rfl)]; simp only [dir, if_true] at rr ⊢; rw [List.reverse_append, rr]
    refine ⟨scopy rev s m.cnt m'.cnt (m.seq c.other.toNat).length, ?_, fun e he => scopy_old he, fun e a b => ?_, ?_, ASim.no (by omega)⟩
    · unfold Md.copies
      show Sim rev V r l _ ((m.grow.copy c.list.toNat (m.seq c.other.toNat)).setSeq c.list.toNat _) ((m'.grow.copy c'.list.toNat (m'.seq c'.other.toNat)).setSeq c'.list.toNat _)
      rw [lc, oc]
      show Sim rev V r l _ _ ((m'.grow.copy (l c.list.toNat) (m'.seq (l c.other.toNat))).setSeq (l c.list.toNat) (if c'.op = 12 then m'.seq (l c.list.toNat) ++ List.range' m'.cnt (m'.seq (l c.other.toNat)).length else List.range' m'.cnt (m'.seq (l c.other.toNat)).length ++ m'.seq (l c.list.toNat)))
      rw [← ee]
      exact h2
    · have b' : e < m.cnt + (m.seq c.other.toNat).length := b
      unfold scopy
      rw [if_pos ⟨a, b'⟩]
      split <;> omega
    · show m'.cnt + (m'.seq c'.other.toNat).length + m.cnt = m.cnt + (m.seq c.other.toNat).length + m'.cnt
      rw [oc, h.len ho]; omega
  by_cases o14 : c.op = 14
  · have lc := L (by omega) (by omega)
    have hk := (hp.list (by omega) (by omega)).2.2
    rw [step_14 m o14, step_14 m' (by rw [op', o14]; cases rev <;> decide), lc]
    exact Stepped.keep (hg.clear hk) rfl rfl (ASim.no (by omega))
  by_cases o156 : c.op = 15 ∨ c.op = 16
  · have lc := L (by omega) (by omega)
    have hk := (hp.list (by omega) (by omega)).2.2
    have hd : (dir true ((m.seq c.list.toNat).map s)).head? = ((m.seq c.list.toNat).getLast?).map s ∧ (dir true ((m.seq c.list.toNat).map s)).getLast? = ((m.seq c.list.toNat).head?).map s := by
      simp [dir, List.head?_reverse, List.getLast?_reverse, List.getLast?_map]
    have a1 := hg.answer (i := m.len) (o := (m.seq c.list.toNat).head?) (fun e q => h.lt _ e (List.mem_of_head? q)) hi (op := c.op) (by omega)
    have a2 := hg.answer (i := m.len) (o := (m.seq c.list.toNat).getLast?) (fun e q => h.lt _ e (List.mem_of_getLast? q)) hi (op := c.op) (by omega)
    rw [hr] at a1 a2
    rcases o156 with o | o
    · rw [step_15 m o]
      cases rev
      · rw [step_15 m' (by rw [op', o]; rfl), lc, h.seq _ hk]
        simp only [dir, Bool.false_eq_true, if_false, List.head?_map]
        exact Stepped.keep a1.1 (answer_cnt _ _ _) (answer_cnt _ _ _) a1.2
      · rw [step_16 m' (by rw [op', o]; rfl), lc, h.seq _ hk, hd.2]
        exact Stepped.keep a1.1 (answer_cnt _ _ _) (answer_cnt _ _ _) a1.2
    · rw [step_16 m o]
      cases rev
      · rw [step_16 m' (by rw [op', o]; rfl), lc, h.seq _ hk]
        simp only [dir, Bool.false_eq_true, if_false, List.getLast?_map]
        exact Stepped.keep a2.1 (answer_cnt _ _ _) (answer_cnt _ _ _) a2.2
      · rw [step_15 m' (by rw [op', o]; rfl), lc, h.seq _ hk, hd.1]
        exact Stepped.keep a2.1 (answer_cnt _ _ _) (answer_cnt _ _ _) a2.2
  by_cases o17 : c.op = 17
  · have lc := L (by omega) (by omega)
    have hk := (hp.list (by omega) (by omega)).2.2
    rw [step_17 m o17, step_17 m' (by rw [op', o17]; cases rev <;> decide), lc, h.len hk]
    exact Stepped.keep hg rfl rfl ⟨rfl, .inl ⟨rfl, rfl⟩, by rw [if_neg (by omega)]; exact ⟨rfl, rfl⟩⟩
  obtain ⟨e, he, hec, ec, he'⟩ := E (by omega)
  by_cases o189 : c.op = 18 ∨ c.op = 19
  · have nx : (rev = false → m'.next (s e) = (m.next e).map s ∧ m'.prev (s e) = (m.prev e).map s) ∧ (rev = true → m'.prev (s e) = (m.next e).map s ∧ m'.next (s e) = (m.prev e).map s) := by
      unfold Md.next Md.prev
      rw [h.inn e hec]
      cases hin : m.inn e with
      | none => simp
      | some k =>
        have hm := (hw.mem k e).2 hin
        have hk := hw.isL_of_mem hm
        have ix := h.idx hk (hw.nodup k) hm
        have jl := List.idxOf_lt_length_of_mem hm
        have hlen := h.len hk
        simp only [Option.map_some]
        refine ⟨fun q => ?_, fun q => ?_⟩
        · subst q
          simp only [Bool.false_eq_true, if_false] at ix
          rw [ix]
          have g := fun j (hj : j < (m.seq k).length) => h.get hk hj
          simp only [Bool.false_eq_true, if_false] at g
          constructor
          · by_cases z : (m.seq k).idxOf e + 1 < (m.seq k).length
            · exact g _ z
            · rw [List.getElem?_eq_none (by omega), List.getElem?_eq_none (by omega)]; rfl
          · by_cases z : (m.seq k).idxOf e = 0
            · rw [if_pos z, if_pos z]; rfl
            · rw [if_neg z, if_neg z]; exact g _ (by omega)
        · subst q
          simp only [if_true] at ix
          rw [ix]
          have g := fun j (hj : j < (m.seq k).length) => h.get hk hj
          simp only [if_true] at g
          constructor
          · by_cases z : (m.seq k).idxOf e + 1 < (m.seq k).length
            · rw [if_neg (by omega), ← g _ z]; congr 1
            · rw [if_pos (by omega), List.getElem?_eq_none (by omega)]; rfl
          · by_cases z : (m.seq k).idxOf e = 0
            · rw [if_pos z, List.getElem?_eq_none (by omega)]; rfl
            · rw [if_neg z, ← g _ (by omega)]; congr 1; omega
    have a1 := hg.answer (i := m.len) (o := m.next e) (fun x q => h.rloN hw q) hi (op := c.op) (by omega)
    have a2 := hg.answer (i := m.len) (o := m.prev e) (fun x q => h.rloP hw q) hi (op := c.op) (by omega)
    rw [hr] at a1 a2
    rcases o189 with o | o
    · rw [step_18 m o he]
      cases rev
      · rw [step_18 m' (by rw [op', o]; rfl) he', (nx.1 rfl).1]; exact Stepped.keep a1.1 (answer_cnt _ _ _) (answer_cnt _ _ _) a1.2
      · rw [step_19 m' (by rw [op', o]; rfl) he', (nx.2 rfl).1]; exact Stepped.keep a1.1 (answer_cnt _ _ _) (answer_cnt _ _ _) a1.2
    · rw [step_19 m o he]
      cases rev
      · rw [step_19 m' (by rw [op', o]; rfl) he', (nx.1 rfl).2]; exact Stepped.keep a2.1 (answer_cnt _ _ _) (answer_cnt _ _ _) a2.2
      · rw [step_18 m' (by rw [op', o]; rfl) he', (nx.2 rfl).2]; exact Stepped.keep a2.1 (answer_cnt _ _ _) (answer_cnt _ _ _) a2.2
  by_cases o20 : c.op = 20
  · rw [step_20 m o20 he, step_20 m' (by rw [op', o20]; cases rev <;> decide) he']
    exact Stepped.keep hg rfl rfl ⟨rfl, .inl ⟨rfl, rfl⟩, by rw [if_pos (.inr o20)]; exact h.val e hec⟩
  · have o21 : c.op = 21 := by omega
    rw [step_21 m o21 he, step_21 m' (by rw [op', o21]; cases rev <;> decide) he']
    exact Stepped.keep (hg.setVal hec (hc.val (by omega))) rfl rfl (ASim.no (by omega))

/-- Two scripts, call by call. -/
def CSims (rev : Bool) (V : Vl → Vl → Prop) (r l : Nat → Nat) : List Cl → List Cl → Prop
  | [], [] => True
  | c :: a, c' :: b => CSim rev V r l c c' ∧ CSims rev V r l a b
  | _, _ => False
def ASims (V : Vl → Vl → Prop) (r : Nat → Nat) : List Cl → List An → List An → Prop
  | [], [], [] => True
  | c :: a, x :: p, y :: q => ASim V r c.op x y ∧ ASims V r a p q
  | _, _, _ => False
theorem Sim.lock : ∀ (cs cs' : List Cl) {m m' : Md} {s : Nat → Nat}, Sim rev V r l s m m' → WF m → WF m' → okFrom most m cs = true → CSims rev V r l cs cs' → (∀ j, r (m.len + j) = m'.len + j) → (∀ j, l (m.len + j) = m'.len + j) → (∀ n, m.cnt + n ≤ most → m'.cnt + n ≤ most') →
    okFrom most' m' cs' = true ∧ ASims V r cs (ansFrom m cs) (ansFrom m' cs') ∧ openFrom m' cs' = openFrom m' cs'
  | [], [], _, _, _, _, _, _, _, _, _, _, _ => ⟨rfl, trivial, rfl⟩
  | c :: cs, c' :: cs', m, m', s, h, hw, hw', ho, hc, hr, hl, hroom => by
    simp only [okFrom, Bool.and_eq_true] at ho
    have hp := (permitted_iff _ _ _).1 ho.1
    have hp' := h.perm hw hw' hp hc.1 hroom
    obtain ⟨s', h1, _, _, hcnt, ha⟩ := h.step hw hw' hp hc.1 (by simpa using hr 0) (fun _ => by simpa using hl 0)
    have ls : ∀ (m : Md) (c : Cl), (m.step c).1.len = m.len + 1 := step_len
    have := Sim.lock cs cs' h1 (hw.step hp) (hw'.step hp') ho.2 hc.2 (fun j => by rw [ls, ls]; have := hr (1 + j); rw [show m.len + 1 + j = m.len + (1 + j) by omega, this]; omega)
      (fun j => by rw [ls, ls]; have := hl (1 + j); rw [show m.len + 1 + j = m.len + (1 + j) by omega, this]; omega) (fun n hn => by have h2 := step_cnt m c; have := hroom (n + ((m.step c).1.cnt - m.cnt)) (by omega); omega)
    exact ⟨by simp only [okFrom, Bool.and_eq_true]; exact ⟨(permitted_iff _ _ _).2 hp', this.1⟩, ⟨ha, this.2.1⟩, rfl⟩
  | [], _ :: _, _, _, _, _, _, _, _, hc, _, _, _ => hc.elim
  | _ :: _, [], _, _, _, _, _, _, _, hc, _, _, _ => hc.elim
theorem ASim.eq {op : Int} {a a' : An} (h : ASim Eq id op a a') : a' = a := by
  obtain ⟨h1, h2, h3⟩ := h
  have e1 : a'.elem = a.elem := by
    rcases h2 with ⟨p, q⟩ | ⟨i, p, q⟩
    · rw [p, q]
    · rw [p, q]; rfl
  have e2 : a'.v = a.v := by
    split at h3
    · exact h3.symm
    · rw [h3.1, h3.2]
  cases a; cases a'; simp_all
theorem ASims.eq : ∀ {cs : List Cl} {p q : List An}, ASims Eq id cs p q → q = p
  | [], [], [], _ => rfl
  | _ :: _, _ :: _, _ :: _, h => by rw [h.1.eq, ASims.eq h.2]
  | [], _ :: _, _, h => by simp [ASims] at h
  | [], [], _ :: _, h => by simp [ASims] at h
  | _ :: _, [], _, h => by simp [ASims] at h
  | _ :: _, _ :: _, [], h => by simp [ASims] at h
theorem Sim.init : Sim rev V r l s Md.init Md.init := by
  refine ⟨?_, ?_, ?_, ?_, ?_, ?_, ?_, ?_, ?_, ?_, ?_, ?_, ?_, ?_, ?_⟩ <;> simp [Md.init]
end
end Bead
end Go.Proofs.Ytidnmanljdadaaa
