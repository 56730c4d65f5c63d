/- Plain laws: one run of the model follows another, under maps of calls, lists and elements, mirrored or not. No program is in sight here. -/
import Derived.Test.YtdkahhocapepeaaModel
set_option linter.all false
namespace Go.Proofs.Ytdkahhocapepeaa
namespace Bead

def dir (rev : Bool) (s : List Nat) : List Nat := if rev then s.reverse else s
theorem dir_nil (rev : Bool) : dir rev [] = [] := by cases rev <;> rfl
theorem dir_length (rev : Bool) (s : List Nat) : (dir rev s).length = s.length := by cases rev <;> simp [dir]
theorem dir_mem (rev : Bool) (s : List Nat) (x : Nat) : x ∈ dir rev s ↔ x ∈ s := by cases rev <;> simp [dir]
theorem dir_filter (rev : Bool) (s : List Nat) (p : Nat → Bool) : (dir rev s).filter p = dir rev (s.filter p) := by cases rev <;> simp [dir]

def mir (op : Int) : Int :=
  if op = 3 then 4 else if op = 4 then 3 else if op = 5 then 6 else if op = 6 then 5 else if op = 7 then 8 else if op = 8 then 7 else if op = 9 then 10 else if op = 10 then 9
  else if op = 12 then 13 else if op = 13 then 12 else if op = 15 then 16 else if op = 16 then 15 else if op = 18 then 19 else if op = 19 then 18 else op
def mop (rev : Bool) (op : Int) : Int := if rev then mir op else op

/-- The place at which something stands in the mirrored list. -/
def mpos (rev : Bool) (n p : Nat) : Nat := if rev then n - p else p
theorem dir_ins (rev : Bool) (t : List Nat) (x p : Nat) (hp : p ≤ t.length) : dir rev (t.take p ++ x :: t.drop p) = (dir rev t).take (mpos rev t.length p) ++ x :: (dir rev t).drop (mpos rev t.length p) := by
  cases rev
  · simp [dir, mpos]
  · simp only [dir, mpos, if_true, List.reverse_append, List.reverse_cons, List.append_assoc, List.singleton_append]
    rw [List.take_reverse, List.drop_reverse]
    have e : t.length - (t.length - p) = p := by omega
    rw [e]

structure Sim (rev : Bool) (V : Vl → Vl → Prop) (r l s : Nat → Nat) (m m' : Md) : Prop where
  rlt : ∀ i, i < m.len → r i < m'.len
  isl : ∀ k, m.isL k = true → m'.isL (l k) = true
  linj : ∀ a b, m.isL a = true → m.isL b = true → l a = l b → a = b
  slt : ∀ e, e < m.cnt → s e < m'.cnt
  sinj : ∀ e f, e < m.cnt → f < m.cnt → s e = s f → e = f
  seq : ∀ k, m.isL k = true → m'.seq (l k) = dir rev ((m.seq k).map s)
  ret : ∀ i e, m.ret i = some e → m'.ret (r i) = some (s e)
  inn : ∀ e, e < m.cnt → m'.inn (s e) = (m.inn e).map l
  clr : ∀ e, e < m.cnt → m'.clr (s e) = (m.clr e).map l
  fst : ∀ e, e < m.cnt → m'.fst (s e) = (m.fst e).map r
  val : ∀ e, e < m.cnt → V (m.val e) (m'.val (s e))
  lt : ∀ k e, e ∈ m.seq k → e < m.cnt
  out : ∀ e, m.cnt ≤ e → m.clr e = none ∧ m.fst e = none
  out' : ∀ e, m'.cnt ≤ e → m'.clr e = none ∧ m'.fst e = none
  rlo : ∀ i e, m.ret i = some e → e < m.cnt

section
variable {rev : Bool} {V : Vl → Vl → Prop} {r l s : Nat → Nat} {m m' : Md}
theorem Sim.grow (h : Sim rev V r l s m m') (hr : r m.len = m'.len) : Sim rev V r l s m.grow m'.grow :=
  ⟨fun i hi => by
    simp only [Md.grow] at hi ⊢
    by_cases q : i = m.len
    · subst q; rw [hr]; omega
    · have := h.rlt i (by omega); omega, h.isl, h.linj, h.slt, h.sinj, h.seq, h.ret, h.inn, h.clr, h.fst, h.val, h.lt, h.out, h.out', h.rlo⟩
/-- A list's elements in another order, or other ones of those that are there. -/
theorem Sim.setSeq (h : Sim rev V r l s m m') {k : Nat} (hk : m.isL k = true) {t : List Nat} (ht : ∀ e ∈ t, e < m.cnt) : Sim rev V r l s (m.setSeq k t) (m'.setSeq (l k) (dir rev (t.map s))) := by
  refine ⟨h.rlt, h.isl, h.linj, h.slt, h.sinj, fun a ha => ?_, h.ret, h.inn, h.clr, h.fst, h.val, fun a e he => ?_, h.out, h.out', h.rlo⟩
  · simp only [Md.setSeq] at ha ⊢
    by_cases q : a = k
    · subst q; rw [upd_same, upd_same]
    · rw [upd_other _ _ q, upd_other _ _ (fun z => q (h.linj a k ha hk z))]; exact h.seq a ha
  · simp only [Md.setSeq] at he ⊢
    by_cases q : a = k
    · subst q; rw [upd_same] at he; exact ht e he
    · rw [upd_other _ _ q] at he; exact h.lt a e he
theorem smap_upd {t : List Nat} {c x : Nat} (ht : ∀ e ∈ t, e < c) : t.map (upd s c x) = t.map s := List.map_congr_left (fun e he => upd_other _ _ (by have := ht e he; omega))
/-- An element more. -/
theorem Sim.make (h : Sim rev V r l s m m') {v v' : Vl} (hv : V (canon v) (canon v')) (o : Option Nat) : Sim rev V r l (upd s m.cnt m'.cnt) (m.make v o) (m'.make v' (o.map l)) := by
  refine ⟨h.rlt, h.isl, h.linj, fun e he => ?_, fun e f he hf q => ?_, fun k hk => ?_, fun i e q => ?_, fun e he => ?_, fun e he => ?_, fun e he => ?_, fun e he => ?_, fun k e he => ?_, fun e he => ?_, fun e he => ?_, fun i e q => ?_⟩
  · simp only [Md.make] at he ⊢
    by_cases q : e = m.cnt
    · subst q; rw [upd_same]; omega
    · rw [upd_other _ _ q]; have := h.slt e (by omega); omega
  · simp only [Md.make] at he hf
    by_cases a : e = m.cnt
    · by_cases b : f = m.cnt
      · rw [a, b]
      · subst a; rw [upd_same, upd_other _ _ b] at q; have := h.slt f (by omega); omega
    · by_cases b : f = m.cnt
      · subst b; rw [upd_same, upd_other _ _ a] at q; have := h.slt e (by omega); omega
      · rw [upd_other _ _ a, upd_other _ _ b] at q; exact h.sinj e f (by omega) (by omega) q
  · simp only [Md.make] at hk ⊢
    rw [smap_upd (fun e he => h.lt k e he)]; exact h.seq k hk
  · simp only [Md.make] at q ⊢
    have := h.rlo i e q
    rw [upd_other _ _ (by omega)]; exact h.ret i e q
  · simp only [Md.make] at he ⊢
    by_cases q : e = m.cnt
    · subst q; rw [upd_same, upd_same, upd_same]
    · have := h.slt e (by omega)
      rw [upd_other _ _ q, upd_other _ _ (by omega), upd_other _ _ q]; exact h.inn e (by omega)
  · simp only [Md.make] at he ⊢
    by_cases q : e = m.cnt
    · subst q; rw [upd_same, (h.out _ (Nat.le_refl _)).1, (h.out' _ (Nat.le_refl _)).1]; rfl
    · rw [upd_other _ _ q]; exact h.clr e (by omega)
  · simp only [Md.make] at he ⊢
    by_cases q : e = m.cnt
    · subst q; rw [upd_same, (h.out _ (Nat.le_refl _)).2, (h.out' _ (Nat.le_refl _)).2]; rfl
    · rw [upd_other _ _ q]; exact h.fst e (by omega)
  · simp only [Md.make] at he ⊢
    by_cases q : e = m.cnt
    · subst q; rw [upd_same, upd_same, upd_same]; exact hv
    · have := h.slt e (by omega)
      rw [upd_other m.val _ q, upd_other s _ q, upd_other m'.val _ (by omega)]; exact h.val e (by omega)
  · simp only [Md.make] at he ⊢; have := h.lt k e he; omega
  · simp only [Md.make] at he ⊢; exact h.out e (by omega)
  · simp only [Md.make] at he ⊢; exact h.out' e (by omega)
  · simp only [Md.make] at q ⊢; have := h.rlo i e q; omega
/-- Call i returns e. -/
theorem Sim.give (h : Sim rev V r l s m m') {i e : Nat} (he : e < m.cnt) (hi : ∀ j x, m.ret j = some x → r j ≠ r i) : Sim rev V r l s (m.give i e) (m'.give (r i) (s e)) := by
  have hf := h.fst e he
  refine ⟨h.rlt, h.isl, h.linj, h.slt, h.sinj, h.seq, fun j x q => ?_, h.inn, h.clr, fun x hx => ?_, h.val, h.lt, fun x hx => ?_, fun x hx => ?_, fun j x q => ?_⟩
  · simp only [Md.give] at q ⊢
    by_cases a : j = i
    · subst a; rw [upd_same] at q ⊢; simp at q; rw [q]
    · rw [upd_other _ _ a] at q
      rw [upd_other _ _ (hi j x q)]; exact h.ret j x q
  · simp only [Md.give] at hx ⊢
    by_cases a : x = e
    · subst a
      rw [upd_same, upd_same, hf]
      cases m.fst x <;> rfl
    · rw [upd_other _ _ a, upd_other _ _ (fun z => a (h.sinj x e hx he z))]; exact h.fst x hx
  · simp only [Md.give] at hx ⊢; rw [upd_other _ _ (by omega)]; exact h.out x hx
  · simp only [Md.give] at hx ⊢; have := h.slt e he; rw [upd_other _ _ (by omega)]; exact h.out' x hx
  · simp only [Md.give] at q ⊢
    by_cases a : j = i
    · subst a; rw [upd_same] at q; simp at q; rw [← q]; exact he
    · rw [upd_other _ _ a] at q; exact h.rlo j x q
theorem Sim.num (h : Sim rev V r l s m m') {i e : Nat} (he : e < m.cnt) : m'.num (r i) (s e) = ⟨(r ((m.fst e).getD i) : Nat), 0, Vl.zero⟩ := by
  unfold Md.num
  rw [h.fst e he]
  cases m.fst e <;> rfl
theorem Sim.setVal (h : Sim rev V r l s m m') {e : Nat} (he : e < m.cnt) {v v' : Vl} (hv : V v v') : Sim rev V r l s { m with val := upd m.val e v } { m' with val := upd m'.val (s e) v' } := by
  refine ⟨h.rlt, h.isl, h.linj, h.slt, h.sinj, h.seq, h.ret, h.inn, h.clr, h.fst, fun x hx => ?_, h.lt, h.out, h.out', h.rlo⟩
  simp only at hx ⊢
  by_cases a : x = e
  · subst a; rw [upd_same, upd_same]; exact hv
  · rw [upd_other _ _ a, upd_other _ _ (fun z => a (h.sinj x e hx he z))]; exact h.val x hx
theorem Sim.setInn (h : Sim rev V r l s m m') {e : Nat} (he : e < m.cnt) (o : Option Nat) : Sim rev V r l s { m with inn := upd m.inn e o } { m' with inn := upd m'.inn (s e) (o.map l) } := by
  refine ⟨h.rlt, h.isl, h.linj, h.slt, h.sinj, h.seq, h.ret, fun x hx => ?_, h.clr, h.fst, h.val, h.lt, h.out, h.out', h.rlo⟩
  simp only at hx ⊢
  by_cases a : x = e
  · subst a; rw [upd_same, upd_same]
  · rw [upd_other _ _ a, upd_other _ _ (fun z => a (h.sinj x e hx he z))]; exact h.inn x hx
theorem Sim.newL (h : Sim rev V r l s m m') {n : Nat} (hn : m.isL n = false) (hl : m'.isL (l n) = false) (hs : m.seq n = []) (hs' : m'.seq (l n) = []) : Sim rev V r l s { m with isL := upd m.isL n true } { m' with isL := upd m'.isL (l n) true } := by
  have hk : ∀ k, upd m.isL n true k = true → k ≠ n → m.isL k = true := fun k q a => by rw [upd_other _ _ a] at q; exact q
  refine ⟨h.rlt, fun k q => ?_, fun a b qa qb z => ?_, h.slt, h.sinj, fun k q => ?_, h.ret, h.inn, h.clr, h.fst, h.val, h.lt, h.out, h.out', h.rlo⟩
  · by_cases a : k = n
    · subst a; exact upd_same _ _ _
    · have := h.isl k (hk k q a)
      simp only
      rw [upd_other _ _ (fun z => by rw [z, hl] at this; simp at this)]; exact this
  · by_cases e1 : a = n
    · by_cases e2 : b = n
      · rw [e1, e2]
      · subst e1; have := h.isl b (hk b qb e2); rw [← z, hl] at this; simp at this
    · by_cases e2 : b = n
      · subst e2; have := h.isl a (hk a qa e1); rw [z, hl] at this; simp at this
      · exact h.linj a b (hk a qa e1) (hk b qb e2) z
  · by_cases a : k = n
    · subst a; simp only; rw [hs, hs']; exact (dir_nil rev).symm
    · exact h.seq k (hk k q a)
theorem Sim.mem (h : Sim rev V r l s m m') {k e : Nat} (hk : m.isL k = true) (he : e < m.cnt) : s e ∈ m'.seq (l k) ↔ e ∈ m.seq k := by
  rw [h.seq k hk, dir_mem, List.mem_map]
  exact ⟨fun ⟨x, hx, q⟩ => by rw [← h.sinj x e (h.lt k x hx) he q]; exact hx, fun q => ⟨e, q, rfl⟩⟩
/-- All elements of a list are cleared. -/
theorem Sim.clear (h : Sim rev V r l s m m') {k : Nat} (hk : m.isL k = true) : Sim rev V r l s (m.clear k) (m'.clear (l k)) := by
  have h1 := h.setSeq hk (t := []) (by simp)
  simp only [List.map_nil, dir_nil] at h1
  refine ⟨h1.rlt, h1.isl, h1.linj, h1.slt, h1.sinj, h1.seq, h1.ret, fun e he => ?_, fun e he => ?_, h1.fst, h1.val, h1.lt, fun e he => ?_, fun e he => ?_, h1.rlo⟩
  · have := h.mem hk he
    simp only [Md.clear] at he ⊢
    by_cases q : e ∈ m.seq k
    · rw [if_pos q, if_pos (this.2 q)]; rfl
    · rw [if_neg q, if_neg (fun z => q (this.1 z))]; exact h.inn e he
  · have := h.mem hk he
    simp only [Md.clear] at he ⊢
    by_cases q : e ∈ m.seq k
    · rw [if_pos q, if_pos (this.2 q)]; rfl
    · rw [if_neg q, if_neg (fun z => q (this.1 z))]; exact h.clr e he
  · simp only [Md.clear] at he ⊢
    rw [if_neg (fun z => by have := h.lt k e z; omega)]; exact h.out e he
  · simp only [Md.clear] at he ⊢
    rw [if_neg (fun z => by
      rw [h.seq k hk, dir_mem, List.mem_map] at z
      obtain ⟨x, hx, rfl⟩ := z
      have := h.slt x (h.lt k x hx); omega)]
    exact h.out' e he
end
end Bead
end Go.Proofs.Ytdkahhocapepeaa
