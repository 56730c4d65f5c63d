/- Plain laws: walks through a list, and what can be seen of it. No program is in sight here. -/
import Derived.Test.YtidnmanljdadaaaSim
set_option linter.all false
namespace Go.Proofs.Ytidnmanljdadaaa
namespace Bead

/-- What call i answers if it returns the element o. -/
def Md.tell (m : Md) (i : Nat) (o : Option Nat) : An := (m.answer i o).2
/-- The state behind j calls of a walk through S. -/
def Md.walked (m : Md) (S : List Nat) (j : Nat) : Md :=
  { m with len := m.len + j, ret := fun i => if i < m.len then m.ret i else if i < m.len + j then S[i - m.len]? else none,
           fst := fun e => if e ∈ S.take j then some ((m.fst e).getD (m.len + S.idxOf e)) else m.fst e }
def cEnd (rev : Bool) (l : Nat) : Cl := ⟨if rev then 16 else 15, l, 0, 0, 0, Vl.zero⟩
def cOn (rev : Bool) (i : Nat) : Cl := ⟨if rev then 19 else 18, 0, 0, i, 0, Vl.zero⟩
def walkC (rev : Bool) (l k n : Nat) : List Cl := cEnd rev l :: (List.range n).map (fun j => cOn rev (k + j))
theorem walkC_succ (rev : Bool) (l k n : Nat) : walkC rev l k (n + 1) = walkC rev l k n ++ [cOn rev (k + n)] := by
  simp [walkC, List.range_succ]
theorem walkC_length (rev : Bool) (l k n : Nat) : (walkC rev l k n).length = n + 1 := by simp [walkC]

section
variable {m : Md}
theorem walked_zero (h : WF m) (S : List Nat) : m.walked S 0 = m := by
  unfold Md.walked
  have e1 : (fun i => if i < m.len then m.ret i else if i < m.len + 0 then S[i - m.len]? else none) = m.ret := by
    funext i
    by_cases q : i < m.len
    · rw [if_pos q]
    · rw [if_neg q, if_neg (by omega)]
      cases hr : m.ret i with
      | none => rfl
      | some e => have := (h.rlt i e hr).1; omega
  rw [e1]
  simp
theorem walked_answer {S : List Nat} (hn : S.Nodup) {j : Nat} (hj : j ≤ S.length) : (m.walked S j).grow.answer (m.len + j) S[j]? = (m.walked S (j + 1), m.tell (m.len + j) S[j]?) := by
  have hret : ∀ o, S[j]? = o → (fun i => if i < m.len then m.ret i else if i < m.len + (j + 1) then S[i - m.len]? else none) = upd (fun i => if i < m.len then m.ret i else if i < m.len + j then S[i - m.len]? else none) (m.len + j) o := by
    intro o ho
    funext i
    simp only [upd]
    by_cases q : i = m.len + j
    · subst q; rw [if_neg (by omega), if_pos (by omega), if_pos rfl, Nat.add_sub_cancel_left, ho]
    · rw [if_neg q]
      by_cases a : i < m.len
      · rw [if_pos a, if_pos a]
      · rw [if_neg a, if_neg a]
        by_cases b : i < m.len + j
        · rw [if_pos (by omega), if_pos b]
        · rw [if_neg (by omega), if_neg b]
  cases ho : S[j]? with
  | none =>
    have hl : j = S.length := by have := List.getElem?_eq_none_iff.1 ho; omega
    simp only [Md.answer, Md.tell, Prod.mk.injEq, and_true]
    unfold Md.walked Md.grow
    simp only [Md.mk.injEq, true_and]
    refine ⟨rfl, ?_, ?_⟩
    · rw [hret none ho]
      funext i
      simp only [upd]
      by_cases q : i = m.len + j
      · subst q; rw [if_pos rfl, if_neg (by omega), if_neg (by omega)]
      · rw [if_neg q]
    · rw [List.take_of_length_le (by omega), List.take_of_length_le (by omega)]
  | some e =>
    obtain ⟨hjl, he⟩ := List.getElem?_eq_some_iff.1 ho
    have hidx : S.idxOf e = j := idxOf_of_get hn ho
    have hnot : e ∉ S.take j := fun q => by
      obtain ⟨i, hi, hie⟩ := List.getElem_of_mem q
      rw [List.length_take] at hi
      rw [List.getElem_take] at hie
      have : S[i]? = some e := by rw [List.getElem?_eq_getElem (by omega), hie]
      have := idxOf_of_get hn this
      omega
    have hf : (m.walked S j).fst e = m.fst e := by simp only [Md.walked]; rw [if_neg hnot]
    simp only [Md.answer, Md.tell, Prod.mk.injEq]
    refine ⟨?_, ?_⟩
    · unfold Md.give
      show Md.mk _ _ _ _ _ _ _ _ _ = _
      have hf' : (m.walked S j).grow.fst e = m.fst e := hf
      rw [hf']
      unfold Md.walked Md.grow
      simp only [Md.mk.injEq, true_and]
      refine ⟨rfl, (hret _ ho).symm, ?_⟩
      funext x
      simp only [upd]
      rw [List.take_succ_eq_append_getElem hjl]
      by_cases q : x = e
      · subst q
        rw [if_pos rfl, if_pos (by rw [List.mem_append]; exact .inr (by simp [he])), hidx]
      · rw [if_neg q]
        by_cases a : x ∈ S.take j
        · rw [if_pos a, if_pos (List.mem_append.2 (.inl a))]
        · rw [if_neg a, if_neg (by rw [List.mem_append]; rintro (z | z); exact a z; simp at z; exact q (z.trans he))]
    · unfold Md.num
      show An.mk _ _ _ = _
      have hf' : (m.walked S j).grow.fst e = m.fst e := hf
      rw [hf']

theorem next_at (h : WF m) {l j e : Nat} (he : (m.seq l)[j]? = some e) : m.next e = (m.seq l)[j + 1]? := by
  unfold Md.next
  rw [(h.mem l e).1 (List.mem_of_getElem? he)]
  simp only
  rw [idxOf_of_get (h.nodup l) he]
theorem prev_at (h : WF m) {l j e : Nat} (he : (m.seq l)[j]? = some e) : m.prev e = if j = 0 then none else (m.seq l)[j - 1]? := by
  unfold Md.prev
  rw [(h.mem l e).1 (List.mem_of_getElem? he)]
  simp only
  rw [idxOf_of_get (h.nodup l) he]
theorem dir_on (h : WF m) (rev : Bool) {l j e : Nat} (he : (dir rev (m.seq l))[j]? = some e) : (if rev then m.prev e else m.next e) = (dir rev (m.seq l))[j + 1]? := by
  cases rev
  · exact next_at h he
  · simp only [dir, if_true] at he ⊢
    have hj : j < (m.seq l).length := by have := (List.getElem?_eq_some_iff.1 he).1; simpa using this
    rw [List.getElem?_reverse hj] at he
    rw [prev_at h he]
    by_cases q : j + 1 < (m.seq l).length
    · rw [List.getElem?_reverse q, if_neg (by omega)]
      congr 1
    · rw [if_pos (by omega), List.getElem?_eq_none (by simpa using by omega)]
theorem dir_head (rev : Bool) (s : List Nat) : (if rev then s.getLast? else s.head?) = (dir rev s)[0]? := by
  cases rev
  · simp only [dir, Bool.false_eq_true, if_false]; rw [List.head?_eq_getElem?]
  · simp only [dir, if_true]; rw [← List.head?_eq_getElem?, List.head?_reverse]

theorem walk_end (h : WF m) (rev : Bool) (l : Nat) : m.step (cEnd rev l) = (m.walked (dir rev (m.seq l)) 1, m.tell m.len (dir rev (m.seq l))[0]?) := by
  have q := walked_answer (m := m) (S := dir rev (m.seq l)) (dir_nodup rev (h.nodup l)) (j := 0) (Nat.zero_le _)
  rw [walked_zero h, Nat.add_zero] at q
  rw [← q]
  cases rev
  · rw [step_15 m (c := cEnd false l) rfl, ← dir_head]; rfl
  · rw [step_16 m (c := cEnd true l) rfl, ← dir_head]; rfl
theorem walk_on (h : WF m) (rev : Bool) {l j : Nat} (hj : j < (m.seq l).length) : (m.walked (dir rev (m.seq l)) (j + 1)).step (cOn rev (m.len + j)) = (m.walked (dir rev (m.seq l)) (j + 2), m.tell (m.len + (j + 1)) (dir rev (m.seq l))[j + 1]?) := by
  have hl : j < (dir rev (m.seq l)).length := by rw [dir_length]; exact hj
  have hr : (m.walked (dir rev (m.seq l)) (j + 1)).ret (m.len + j) = some (dir rev (m.seq l))[j] := by
    simp only [Md.walked]
    rw [if_neg (by omega), if_pos (by omega), Nat.add_sub_cancel_left, List.getElem?_eq_getElem hl]
  have q := walked_answer (m := m) (S := dir rev (m.seq l)) (dir_nodup rev (h.nodup l)) (j := j + 1) (by omega)
  rw [← q]
  have on := dir_on h rev (List.getElem?_eq_getElem hl)
  rw [← on]
  cases rev
  · rw [step_18 _ (c := cOn false (m.len + j)) rfl hr]; rfl
  · rw [step_19 _ (c := cOn true (m.len + j)) rfl hr]; rfl

theorem walked_perm_end (h : WF m) (rev : Bool) {l most : Nat} (hl : m.isL l = true) : Permitted most m (cEnd rev l) := by
  have ho : (cEnd rev l).op = 15 ∨ (cEnd rev l).op = 16 := by cases rev <;> simp [cEnd]
  refine ⟨by omega, by omega, fun _ _ => ⟨by simp [cEnd], ?_, by simpa [cEnd] using hl⟩, fun q => by omega, fun q => by omega, fun q => by omega, fun q => by omega, fun q => by omega, fun q => by omega, fun q => by omega⟩
  have := h.isl l hl
  simp only [cEnd]; omega
theorem perm_on (h : WF m) (rev : Bool) {i e most : Nat} (hr : m.ret i = some e) (hc : m.clr e = none) : Permitted most m (cOn rev i) := by
  have ho : (cOn rev i).op = 18 ∨ (cOn rev i).op = 19 := by cases rev <;> simp [cOn]
  refine ⟨by omega, by omega, fun _ _ => by omega, fun q => by omega, fun q => ⟨by simp [cOn], ?_, e, by simpa [cOn] using hr⟩, fun q => by omega, fun q => ?_, fun q => by omega, fun q => by omega, fun q => by omega⟩
  · have := (h.rlt i e hr).1
    simp only [cOn]; omega
  · unfold Md.stale
    simp only [cOn, Int.toNat_natCast, hr, hc]
theorem clr_in (h : WF m) {l e : Nat} (he : e ∈ m.seq l) : m.clr e = none := by
  cases q : m.clr e with
  | none => rfl
  | some k => have := (h.clr e k q).1; rw [(h.mem l e).1 he] at this; simp at this

theorem walk_all (h : WF m) (rev : Bool) {l most : Nat} (hl : m.isL l = true) : ∀ n, n ≤ (m.seq l).length →
    okFrom most m (walkC rev l m.len n) = true ∧ runFrom m (walkC rev l m.len n) = m.walked (dir rev (m.seq l)) (n + 1) ∧ ansFrom m (walkC rev l m.len n) = (List.range (n + 1)).map (fun j => m.tell (m.len + j) (dir rev (m.seq l))[j]?)
  | 0, _ => by
    have q := walk_end h rev l
    refine ⟨?_, ?_, ?_⟩
    · simp only [walkC, List.range_zero, List.map_nil, okFrom, Bool.and_true]; exact (permitted_iff _ _ _).2 (walked_perm_end h rev hl)
    · simp only [walkC, List.range_zero, List.map_nil, runFrom, q]
    · simp [walkC, ansFrom, q]
  | n + 1, hn => by
    obtain ⟨h1, h2, h3⟩ := walk_all h rev (most := most) hl n (by omega)
    have hw := WF.run _ h h1
    rw [h2] at hw
    have hl' : n < (dir rev (m.seq l)).length := by rw [dir_length]; omega
    have hr : (m.walked (dir rev (m.seq l)) (n + 1)).ret (m.len + n) = some (dir rev (m.seq l))[n] := by
      simp only [Md.walked]
      rw [if_neg (by omega), if_pos (by omega), Nat.add_sub_cancel_left, List.getElem?_eq_getElem hl']
    have hc : (m.walked (dir rev (m.seq l)) (n + 1)).clr (dir rev (m.seq l))[n] = none := clr_in h (l := l) ((dir_mem rev _ _).1 (List.getElem_mem hl'))
    have q := walk_on h rev (l := l) (j := n) (by omega)
    rw [walkC_succ]
    refine ⟨?_, ?_, ?_⟩
    · rw [okFrom_append, h1, h2, Bool.true_and]
      simp only [okFrom, Bool.and_true]
      exact (permitted_iff _ _ _).2 (perm_on hw rev hr hc)
    · rw [runFrom_append, h2]; simp only [runFrom, q]
    · rw [ansFrom_append, h2, h3]; simp only [ansFrom, q]
      rw [List.range_succ (n := n + 1), List.map_append]; rfl

/-- The number by which an element of S is known, at the end of a walk through S. -/
def Md.name (m : Md) (S : List Nat) (e : Nat) : Nat := (m.fst e).getD (m.len + S.idxOf e)
def Md.names (m : Md) (S : List Nat) : List Nat := S.map (m.name S)
theorem names_length (S : List Nat) : (m.names S).length = S.length := by simp [Md.names]
theorem tell_at {S : List Nat} (hn : S.Nodup) {j e : Nat} (h : S[j]? = some e) : m.tell (m.len + j) S[j]? = ⟨(m.name S e : Nat), 0, Vl.zero⟩ := by
  rw [h]
  simp only [Md.tell, Md.answer, Md.num, Md.name, idxOf_of_get hn h]
theorem walked_fst {S : List Nat} {j e : Nat} (he : e ∈ S) (hj : S.length ≤ j) : (m.walked S j).fst e = some (m.name S e) := by
  simp only [Md.walked]
  rw [List.take_of_length_le hj, if_pos he]; rfl
theorem walked_names {S T : List Nat} {j : Nat} (hj : S.length ≤ j) (hT : ∀ e ∈ T, e ∈ S) : (m.walked S j).names T = T.map (m.name S) := by
  unfold Md.names
  refine List.map_congr_left (fun e he => ?_)
  unfold Md.name
  rw [walked_fst (hT e he) hj]; rfl
/-- The answers of a walk. -/
theorem walk_tells {S : List Nat} (hn : S.Nodup) : (List.range (S.length + 1)).map (fun j => m.tell (m.len + j) S[j]?) = (m.names S).map (fun (n : Nat) => (⟨(n : Nat), 0, Vl.zero⟩ : An)) ++ [An.no] := by
  rw [List.range_succ, List.map_append]
  congr 1
  · apply List.ext_getElem?
    intro j
    by_cases q : j < S.length
    · rw [List.getElem?_map, List.getElem?_range q, Option.map_some, tell_at hn (List.getElem?_eq_getElem q)]
      simp [Md.names, q]
    · rw [List.getElem?_eq_none (by simp; omega), List.getElem?_eq_none (by simp [names_length]; omega)]
  · simp [Md.tell, Md.answer]

/-- The walk through a list of a state. -/
def Md.walk (m : Md) (rev : Bool) (l : Nat) : List Cl := walkC rev l m.len (m.seq l).length
def Md.behindWalk (m : Md) (rev : Bool) (l : Nat) : Md := m.walked (dir rev (m.seq l)) ((m.seq l).length + 1)
theorem walk_ok (h : WF m) (rev : Bool) {l most : Nat} (hl : m.isL l = true) : okFrom most m (m.walk rev l) = true := (walk_all h rev hl _ (Nat.le_refl _)).1
theorem walk_run (h : WF m) (rev : Bool) {l : Nat} (hl : m.isL l = true) : runFrom m (m.walk rev l) = m.behindWalk rev l := (walk_all (most := 0) h rev hl _ (Nat.le_refl _)).2.1
theorem walk_ans (h : WF m) (rev : Bool) {l : Nat} (hl : m.isL l = true) : ansFrom m (m.walk rev l) = (m.names (dir rev (m.seq l))).map (fun (n : Nat) => (⟨(n : Nat), 0, Vl.zero⟩ : An)) ++ [An.no] := by
  rw [← walk_tells (dir_nodup rev (h.nodup l)), dir_length]
  exact (walk_all (most := 0) h rev hl _ (Nat.le_refl _)).2.2
theorem walk_wf (h : WF m) (rev : Bool) {l : Nat} (hl : m.isL l = true) : WF (m.behindWalk rev l) := by
  rw [← walk_run h rev hl]; exact WF.run (most := 0) _ h (walk_ok h rev hl)
theorem walk_length (m : Md) (rev : Bool) (l : Nat) : (m.walk rev l).length = (m.seq l).length + 1 := walkC_length _ _ _ _
end

theorem run_lens : ∀ (cs : List Cl) (m : Md), (runFrom m cs).len = m.len + cs.length
  | [], m => rfl
  | c :: cs, m => by simp only [runFrom, run_lens cs, step_len, List.length_cons]; omega
theorem run_init_len (cs : List Cl) : (runFrom Md.init cs).len = cs.length := by rw [run_lens]; simp [Md.init]

/-- A state behind another one, in which nothing but looks has been made: all is as before, but more is named. -/
structure Ext (m m' : Md) : Prop where
  cnt : m'.cnt = m.cnt
  isL : m'.isL = m.isL
  seq : m'.seq = m.seq
  val : m'.val = m.val
  inn : m'.inn = m.inn
  clr : m'.clr = m.clr
  len : m.len ≤ m'.len
  ret : ∀ i, i < m.len → m'.ret i = m.ret i
  fst : ∀ e i, m.fst e = some i → m'.fst e = some i
theorem Ext.refl (m : Md) : Ext m m := ⟨rfl, rfl, rfl, rfl, rfl, rfl, Nat.le_refl _, fun _ _ => rfl, fun _ _ h => h⟩
theorem Ext.trans {a b c : Md} (h : Ext a b) (k : Ext b c) : Ext a c :=
  ⟨k.cnt.trans h.cnt, k.isL.trans h.isL, k.seq.trans h.seq, k.val.trans h.val, k.inn.trans h.inn, k.clr.trans h.clr, Nat.le_trans h.len k.len,
   fun i hi => (k.ret i (Nat.lt_of_lt_of_le hi h.len)).trans (h.ret i hi), fun e i q => k.fst e i (h.fst e i q)⟩
theorem walked_ext (m : Md) (S : List Nat) (j : Nat) : Ext m (m.walked S j) :=
  ⟨rfl, rfl, rfl, rfl, rfl, rfl, Nat.le_add_right _ _, fun i hi => by simp only [Md.walked]; rw [if_pos hi], fun e i q => by
    simp only [Md.walked]
    split
    · rw [q]; rfl
    · exact q⟩
theorem Ext.name {m m' : Md} (h : Ext m m') {e i : Nat} (q : m.fst e = some i) (S : List Nat) : m'.name S e = i := by
  unfold Md.name; rw [h.fst e i q]; rfl

/-- The walks through some lists, one after another. -/
def Md.tour (m : Md) : List Nat → List Cl
  | [] => []
  | l :: r => m.walk false l ++ (m.behindWalk false l).tour r
def Md.behindTour (m : Md) : List Nat → Md
  | [] => m
  | l :: r => (m.behindWalk false l).behindTour r
theorem tour_ext : ∀ (Ls : List Nat) (m : Md), Ext m (m.behindTour Ls)
  | [], m => Ext.refl m
  | l :: r, m => (walked_ext m _ _).trans (tour_ext r _)
theorem tour_all : ∀ (Ls : List Nat) {m : Md} {most : Nat}, WF m → (∀ l ∈ Ls, m.isL l = true) →
    okFrom most m (m.tour Ls) = true ∧ runFrom m (m.tour Ls) = m.behindTour Ls ∧ WF (m.behindTour Ls) ∧ ∀ l ∈ Ls, ∀ e ∈ m.seq l, ∃ i, (m.behindTour Ls).fst e = some i
  | [], m, most, h, _ => ⟨rfl, rfl, h, by simp⟩
  | l :: r, m, most, h, hL => by
    have hl := hL l (by simp)
    obtain ⟨h1, h2, h3, h4⟩ := tour_all r (m := m.behindWalk false l) (most := most) (walk_wf h false hl) (fun k hk => hL k (by simp [hk]))
    refine ⟨?_, ?_, h3, ?_⟩
    · simp only [Md.tour]; rw [okFrom_append, walk_ok h false hl, walk_run h false hl, h1]; rfl
    · simp only [Md.tour]; rw [runFrom_append, walk_run h false hl, h2]; rfl
    · intro k hk e he
      rcases List.mem_cons.1 hk with rfl | hk
      · exact ⟨_, (tour_ext r _).fst e _ (walked_fst (m := m) (S := dir false (m.seq k)) he (by simp [dir]))⟩
      · exact h4 k hk e he

/-- The numbers of the lists of a script. -/
def madeB (c : Cl) : Bool := decide (c.op = 0 ∨ c.op = 1)
def listsAt (k : Nat) : List Cl → List Nat
  | [] => []
  | c :: r => if madeB c then k :: listsAt (k + 1) r else listsAt (k + 1) r
def listsOf (cs : List Cl) : List Nat := listsAt 0 cs
theorem listsAt_append : ∀ (a b : List Cl) (k : Nat), listsAt k (a ++ b) = listsAt k a ++ listsAt (k + a.length) b
  | [], b, k => by simp [listsAt]
  | c :: a, b, k => by
    simp only [List.cons_append, listsAt, listsAt_append a b, List.length_cons]
    rw [show k + 1 + a.length = k + (a.length + 1) by omega]
    split <;> simp
theorem listsAt_none : ∀ (a : List Cl) (k : Nat), (∀ c ∈ a, madeB c = false) → listsAt k a = []
  | [], _, _ => rfl
  | c :: a, k, h => by simp [listsAt, h c (by simp), listsAt_none a (k + 1) (fun x hx => h x (by simp [hx]))]
theorem listsAt_length : ∀ (a : List Cl) (k : Nat), (listsAt k a).length ≤ a.length
  | [], _ => by simp [listsAt]
  | c :: a, k => by
    have := listsAt_length a (k + 1)
    simp only [listsAt]; split <;> simp <;> omega
end Bead
end Go.Proofs.Ytidnmanljdadaaa

/- Plain laws: what every call keeps; which lists there are; by which number an element is known. No program is in sight here. -/
namespace Go.Proofs.Ytidnmanljdadaaa
namespace Bead

theorem step_isL (m : Md) (c : Cl) : (m.step c).1.isL = if madeB c then upd m.isL m.len true else m.isL := by
  by_cases hm : c.op = 0 ∨ c.op = 1
  · rw [step_01 m hm]
    have : madeB c = true := by simp [madeB, hm]
    rw [this]; rfl
  · have hb : madeB c = false := by simp only [madeB, decide_eq_false_iff_not]; exact hm
    rw [hb]
    show (m.step c).1.isL = m.isL
    have ha : ∀ (m : Md) i o, (m.answer i o).1.isL = m.isL := fun m i o => by cases o <;> rfl
    have hi : ∀ (m : Md) i b, (m.insert i c b).1.isL = m.isL := by
      intro m i b
      unfold Md.insert
      split
      · rfl
      · split
        · rw [ha]; rfl
        · rfl
    unfold Md.step
    split
    · unfold Md.change
      (repeat' split)
      · exact ha _ _ _
      · exact ha _ _ _
      · exact hi _ _ _
      · exact hi _ _ _
      · unfold Md.move Md.moveTo
        (repeat' split) <;> rfl
      · unfold Md.remove
        split
        · rfl
        · dsimp only; split <;> rfl
      · rfl
      · rfl
      · rfl
    · unfold Md.look
      rw [if_neg hm]
      (repeat' split)
      all_goals first | exact ha _ _ _ | rfl

theorem run_isL : ∀ (cs : List Cl) (m : Md) (i : Nat), (runFrom m cs).isL i = true ↔ m.isL i = true ∨ i ∈ listsAt m.len cs
  | [], m, i => by simp [runFrom, listsAt]
  | c :: cs, m, i => by
    simp only [runFrom]
    rw [run_isL cs, step_len, step_isL]
    simp only [listsAt]
    by_cases q : madeB c = true
    · rw [if_pos q, if_pos q]
      simp only [upd, List.mem_cons]
      by_cases z : i = m.len
      · simp [z]
      · simp [z]
    · rw [if_neg q, if_neg q]
theorem listsOf_iff (cs : List Cl) (i : Nat) : i ∈ listsOf cs ↔ (runFrom Md.init cs).isL i = true := by
  rw [run_isL]
  simp [Md.init, listsOf]
theorem run_isL_mono (cs : List Cl) {m : Md} {i : Nat} (h : m.isL i = true) : (runFrom m cs).isL i = true := (run_isL cs m i).2 (.inl h)

theorem ret_none {m : Md} (h : WF m) {i : Nat} (hi : m.len ≤ i) : m.ret i = none := by
  cases q : m.ret i with
  | none => rfl
  | some e => have := (h.rlt i e q).1; omega

/-- What a call does to what calls returned and to the first numbers. -/
structure Kept (m m' : Md) (a : An) : Prop where
  ret : ∀ i, i ≠ m.len → m'.ret i = m.ret i
  fst : ∀ e i, m.fst e = some i → m'.fst e = some i
  tell : m.ret m.len = none → ∀ e, m'.ret m.len = some e → ∃ i : Nat, m'.fst e = some i ∧ a.elem = i
theorem Kept.answer {m X : Md} (hr : X.ret = m.ret) (hf : X.fst = m.fst) (o : Option Nat) : Kept m (X.answer m.len o).1 (X.answer m.len o).2 := by
  cases o with
  | none => exact ⟨fun i _ => by simp only [Md.answer, hr], fun e i q => by simp only [Md.answer, hf]; exact q, fun h0 e q => by simp only [Md.answer, hr, h0] at q; simp at q⟩
  | some x =>
    refine ⟨fun i hi => ?_, fun e i q => ?_, fun h0 e q => ?_⟩
    · simp only [Md.answer, Md.give, hr]; rw [upd_other _ _ hi]
    · simp only [Md.answer, Md.give, hf]
      by_cases z : e = x
      · subst z; rw [upd_same, q]; rfl
      · rw [upd_other _ _ z]; exact q
    · simp only [Md.answer, Md.give] at q ⊢
      rw [upd_same] at q
      simp at q
      subst q
      exact ⟨_, upd_same _ _ _, rfl⟩
theorem Kept.same {m X : Md} {a : An} (hr : X.ret = m.ret) (hf : X.fst = m.fst) : Kept m X a :=
  ⟨fun i _ => by rw [hr], fun e i q => by rw [hf]; exact q, fun h0 e q => by rw [hr, h0] at q; simp at q⟩
theorem step_kept (m : Md) (c : Cl) : Kept m (m.step c).1 (m.step c).2 := by
  have hi : ∀ b, Kept m (m.grow.insert m.len c b).1 (m.grow.insert m.len c b).2 := by
    intro b
    unfold Md.insert
    split
    · exact Kept.same rfl rfl
    · split
      · exact Kept.answer (m := m) (by rfl) (by rfl) _
      · exact Kept.same rfl rfl
  unfold Md.step
  split
  · unfold Md.change
    (repeat' split)
    · exact Kept.answer (m := m) (by rfl) (by rfl) _
    · exact Kept.answer (m := m) (by rfl) (by rfl) _
    · exact hi _
    · exact hi _
    · unfold Md.move Md.moveTo
      (repeat' split) <;> exact Kept.same rfl rfl
    · unfold Md.remove
      split
      · exact Kept.same rfl rfl
      · dsimp only; split <;> exact Kept.same rfl rfl
    · exact Kept.same rfl rfl
    · exact Kept.same rfl rfl
    · exact Kept.same rfl rfl
  · unfold Md.look
    (repeat' split)
    all_goals first | exact Kept.answer (m := m) (by rfl) (by rfl) _ | exact Kept.same rfl rfl

theorem run_fst : ∀ (cs : List Cl) {m : Md} {e i : Nat}, m.fst e = some i → (runFrom m cs).fst e = some i
  | [], _, _, _, h => h
  | c :: cs, m, e, i, h => run_fst cs ((step_kept m c).fst e i h)
theorem run_ret : ∀ (cs : List Cl) {m : Md} {i : Nat}, i < m.len → (runFrom m cs).ret i = m.ret i
  | [], _, _, _ => rfl
  | c :: cs, m, i, h => by
    simp only [runFrom]
    rw [run_ret cs (by rw [step_len]; omega), (step_kept m c).ret i (by omega)]
/-- Each call answers with the number of the first call that returned its element. -/
theorem run_tell {most : Nat} : ∀ (cs : List Cl) {m : Md}, WF m → okFrom most m cs = true → ∀ i e, m.len ≤ i → (runFrom m cs).ret i = some e →
    ∃ k : Nat, (runFrom m cs).fst e = some k ∧ ∃ a, (ansFrom m cs)[i - m.len]? = some a ∧ a.elem = k
  | [], m, h, _, i, e, hi, hr => by rw [runFrom, ret_none h hi] at hr; simp at hr
  | c :: cs, m, h, ho, i, e, hi, hr => by
    simp only [okFrom, Bool.and_eq_true] at ho
    have hp := (permitted_iff _ _ _).1 ho.1
    simp only [runFrom, ansFrom] at hr ⊢
    by_cases q : i = m.len
    · subst q
      rw [run_ret cs (by rw [step_len]; omega)] at hr
      obtain ⟨k, h1, h2⟩ := (step_kept m c).tell (ret_none h (Nat.le_refl _)) e hr
      exact ⟨k, run_fst cs h1, (m.step c).2, by simp, h2⟩
    · obtain ⟨k, h1, a, h2, h3⟩ := run_tell cs (h.step hp) ho.2 i e (by rw [step_len]; omega) hr
      rw [step_len] at h2
      refine ⟨k, h1, a, ?_, h3⟩
      have : i - m.len = (i - (m.len + 1)) + 1 := by omega
      rw [this, List.getElem?_cons_succ]; exact h2
theorem known_tell {most : Nat} {cs : List Cl} (ho : okFrom most Md.init cs = true) {i e : Nat} (hr : (runFrom Md.init cs).ret i = some e) :
    ∃ k : Nat, (runFrom Md.init cs).fst e = some k ∧ ∃ a, (ansFrom Md.init cs)[i]? = some a ∧ a.elem = k := by
  obtain ⟨k, h1, a, h2, h3⟩ := run_tell cs WF.init ho i e (by simp [Md.init]) hr
  exact ⟨k, h1, a, by simpa [Md.init] using h2, h3⟩

/-- Two elements known by one number are one. -/
theorem fst_inj {m : Md} (h : WF m) {e f i : Nat} (he : m.fst e = some i) (hf : m.fst f = some i) : e = f := by
  have h1 := (h.fst1 e i he).1
  have h2 := (h.fst1 f i hf).1
  rw [h1] at h2; simpa using h2

/-- All lists of m' that m has look as they do in m: their elements, which are known by one number, and their values. -/
structure Look (l : Nat) (m m' : Md) : Prop where
  seq : m'.seq l = m.seq l
  val : ∀ e ∈ m.seq l, m'.val e = m.val e
  fst : ∀ e ∈ m.seq l, ∃ i, m.fst e = some i ∧ m'.fst e = some i
theorem Look.names {l : Nat} {m m' : Md} (h : Look l m m') : m'.names (m'.seq l) = m.names (m.seq l) := by
  rw [h.seq]
  unfold Md.names
  refine List.map_congr_left (fun e he => ?_)
  obtain ⟨i, h1, h2⟩ := h.fst e he
  unfold Md.name; rw [h1, h2]; rfl
theorem Look.vals {l : Nat} {m m' : Md} (h : Look l m m') : (m'.seq l).map m'.val = (m.seq l).map m.val := by
  rw [h.seq]
  exact List.map_congr_left (fun e he => h.val e he)
theorem Look.symm {l : Nat} {m m' : Md} (h : Look l m m') : Look l m' m :=
  ⟨h.seq.symm, fun e he => (h.val e (h.seq ▸ he)).symm, fun e he => by obtain ⟨i, a, b⟩ := h.fst e (h.seq ▸ he); exact ⟨i, b, a⟩⟩
theorem Look.trans {l : Nat} {a b c : Md} (h : Look l a b) (k : Look l b c) : Look l a c :=
  ⟨k.seq.trans h.seq, fun e he => (k.val e (h.seq ▸ he)).trans (h.val e he), fun e he => by
    obtain ⟨i, p, q⟩ := h.fst e he
    obtain ⟨j, r, s⟩ := k.fst e (h.seq ▸ he)
    rw [q] at r; simp at r; subst r; exact ⟨i, p, s⟩⟩
end Bead
end Go.Proofs.Ytidnmanljdadaaa

/- Plain laws: what moves, insertions and removals do to a list's sequence. No program is in sight here. -/
namespace Go.Proofs.Ytidnmanljdadaaa
namespace Bead

def rm (e : Nat) (s : List Nat) : List Nat := s.filter fun x => decide (x ≠ e)
def ins (k e : Nat) (s : List Nat) : List Nat := s.take k ++ e :: s.drop k

theorem rm_none {e : Nat} {s : List Nat} (h : e ∉ s) : rm e s = s := List.filter_eq_self.2 (fun x hx => by simp; exact fun q => h (q ▸ hx))
theorem rm_append (e : Nat) (a b : List Nat) : rm e (a ++ b) = rm e a ++ rm e b := List.filter_append _ _
theorem rm_cons_same (e : Nat) (s : List Nat) : rm e (e :: s) = rm e s := List.filter_cons_of_neg (by simp)
theorem rm_cons_other {e x : Nat} (h : x ≠ e) (s : List Nat) : rm e (x :: s) = x :: rm e s := List.filter_cons_of_pos (by simpa using h)
theorem mem_rm {e x : Nat} {s : List Nat} : x ∈ rm e s ↔ x ∈ s ∧ x ≠ e := by unfold rm; rw [List.mem_filter]; simp
theorem rm_length {e : Nat} {s : List Nat} (hn : s.Nodup) (h : e ∈ s) : (rm e s).length + 1 = s.length := by
  obtain ⟨u, z, rfl⟩ := List.append_of_mem h
  have hd := List.nodup_append.1 hn
  have h1 : e ∉ u := fun q => hd.2.2 e q e (by simp) rfl
  have h2 : e ∉ z := (List.nodup_cons.1 hd.2.1).1
  rw [rm_append, rm_cons_same, rm_none h1, rm_none h2]
  simp; omega
/-- A sequence parted at an element. -/
theorem part_at {e : Nat} {s : List Nat} (hn : s.Nodup) (h : e ∈ s) : ∃ u z, s = u ++ e :: z ∧ e ∉ u ∧ e ∉ z ∧ rm e s = u ++ z ∧ s.idxOf e = u.length := by
  obtain ⟨u, z, rfl⟩ := List.append_of_mem h
  have hd := List.nodup_append.1 hn
  have h1 : e ∉ u := fun q => hd.2.2 e q e (by simp) rfl
  have h2 : e ∉ z := (List.nodup_cons.1 hd.2.1).1
  refine ⟨u, z, rfl, h1, h2, ?_, ?_⟩
  · rw [rm_append, rm_cons_same, rm_none h1, rm_none h2]
  · exact idxOf_of_get hn (by simp)
theorem ins_zero (e : Nat) (s : List Nat) : ins 0 e s = e :: s := rfl
theorem ins_length (e : Nat) (s : List Nat) : ins s.length e s = s ++ [e] := by simp [ins]
theorem ins_at (u z : List Nat) (e : Nat) : ins u.length e (u ++ z) = u ++ e :: z := by simp [ins]
theorem rm_ins {e k : Nat} {s : List Nat} (h : e ∉ s) : rm e (ins k e s) = s := by
  unfold ins
  rw [rm_append, rm_cons_same, rm_none (fun q => h (List.mem_of_mem_take q)), rm_none (fun q => h (List.mem_of_mem_drop q)), List.take_append_drop]
theorem not_mem_rm (e : Nat) (s : List Nat) : e ∉ rm e s := fun q => (mem_rm.1 q).2 rfl

section
variable {m : Md} {c : Cl} {l e x : Nat}
theorem mv_7 (hop : c.op = 7) (hl : c.list.toNat = l) (hr : m.ret c.elem.toNat = some e) (he : e ∈ m.seq l) : m.step c = (m.grow.setSeq l (e :: rm e (m.seq l)), An.no) := by
  rw [step_mv m (.inl hop)]
  unfold Md.move
  have hr' : m.grow.ret c.elem.toNat = some e := hr
  have he' : e ∈ m.grow.seq l := he
  rw [hr', hl]
  simp only [if_pos he', Md.moveTo, if_pos hop, take_put]
  rfl
theorem mv_8 (hop : c.op = 8) (hl : c.list.toNat = l) (hr : m.ret c.elem.toNat = some e) (he : e ∈ m.seq l) : m.step c = (m.grow.setSeq l (rm e (m.seq l) ++ [e]), An.no) := by
  rw [step_mv m (.inr (.inl hop))]
  unfold Md.move
  have hr' : m.grow.ret c.elem.toNat = some e := hr
  have he' : e ∈ m.grow.seq l := he
  have hop7 : ¬ c.op = 7 := by omega
  rw [hr', hl]
  simp only [if_pos he', Md.moveTo, if_neg hop7, if_pos hop, take_put]
  congr 2
  have : ((m.grow.take l e).seq l) = rm e (m.seq l) := by simp only [Md.take, Md.setSeq, upd_same]; rfl
  rw [this]
  show List.take _ (rm e (m.seq l)) ++ e :: List.drop _ (rm e (m.seq l)) = _
  simp
/-- Where a move beside a mark puts the element. -/
def beside (c : Cl) (x : Nat) (s : List Nat) : Nat := s.idxOf x + if c.op = 10 then 1 else 0
theorem mv_9 (hop : c.op = 9 ∨ c.op = 10) (hl : c.list.toNat = l) (hr : m.ret c.elem.toNat = some e) (he : e ∈ m.seq l) (hx : m.ret c.mark.toNat = some x) (hxl : x ∈ m.seq l) (hne : x ≠ e) :
    m.step c = (m.grow.setSeq l (ins (beside c x (rm e (m.seq l))) e (rm e (m.seq l))), An.no) := by
  rw [step_mv m (by omega)]
  unfold Md.move
  have hr' : m.grow.ret c.elem.toNat = some e := hr
  have he' : e ∈ m.grow.seq l := he
  have hx' : m.grow.ret c.mark.toNat = some x := hx
  have hxl' : x ∈ m.grow.seq l := hxl
  have h7 : ¬ c.op = 7 := by omega
  have h8 : ¬ c.op = 8 := by omega
  rw [hr', hl]
  simp only [if_pos he', Md.moveTo, if_neg h7, if_neg h8, hx']
  rw [if_neg (by rintro (q | q); exact hne q; exact q hxl'), take_put]
  congr 2
  have : ((m.grow.take l e).seq l) = rm e (m.seq l) := by simp only [Md.take, Md.setSeq, upd_same]; rfl
  rw [this]
  rfl
theorem mv_9_not (hop : c.op = 9 ∨ c.op = 10) (hl : c.list.toNat = l) (hr : m.ret c.elem.toNat = some e) (hx : m.ret c.mark.toNat = some x) (hne : e ∉ m.seq l ∨ x = e ∨ x ∉ m.seq l) : m.step c = (m.grow, An.no) := by
  rw [step_mv m (by omega)]
  unfold Md.move
  have hr' : m.grow.ret c.elem.toNat = some e := hr
  have hx' : m.grow.ret c.mark.toNat = some x := hx
  have h7 : ¬ c.op = 7 := by omega
  have h8 : ¬ c.op = 8 := by omega
  rw [hr', hl]
  simp only
  by_cases he : e ∈ m.grow.seq l
  · simp only [if_pos he, Md.moveTo, if_neg h7, if_neg h8, hx']
    rw [if_pos]
    rcases hne with q | q | q
    · exact absurd he q
    · exact .inl q
    · exact .inr q
  · rw [if_neg he]
theorem mv_not (hop : c.op = 7 ∨ c.op = 8 ∨ c.op = 9 ∨ c.op = 10) (hl : c.list.toNat = l) (hr : m.ret c.elem.toNat = some e) (he : e ∉ m.seq l) : m.step c = (m.grow, An.no) := by
  rw [step_mv m hop]
  unfold Md.move
  have hr' : m.grow.ret c.elem.toNat = some e := hr
  have he' : e ∉ m.grow.seq l := he
  rw [hr', hl]
  simp only [if_neg he']

/-- Whatever the move: the element moves among the others, which stay. -/
theorem mv_any (h : WF m) (hop : c.op = 7 ∨ c.op = 8 ∨ c.op = 9 ∨ c.op = 10) (hl : c.list.toNat = l) (hr : m.ret c.elem.toNat = some e) (hx : c.op = 9 ∨ c.op = 10 → ∃ x, m.ret c.mark.toNat = some x) :
    ∃ s, m.step c = (m.grow.setSeq l s, An.no) ∧ rm e s = rm e (m.seq l) ∧ s.Perm (m.seq l) := by
  have self : m.grow.setSeq l (m.seq l) = m.grow := setSeq_self m.grow l
  by_cases he : e ∈ m.seq l
  · have pm : ∀ k, (ins k e (rm e (m.seq l))).Perm (m.seq l) := fun k => move_perm (h.nodup l) he k
    rcases (show c.op = 7 ∨ c.op = 8 ∨ (c.op = 9 ∨ c.op = 10) by omega) with q | q | q
    · exact ⟨_, mv_7 q hl hr he, by rw [rm_cons_same, rm_none (not_mem_rm e _)], pm 0⟩
    · refine ⟨_, mv_8 q hl hr he, by rw [rm_append, rm_none (not_mem_rm e _), rm_cons_same]; simp [rm], ?_⟩
      have := pm (rm e (m.seq l)).length
      rw [ins_length] at this; exact this
    · obtain ⟨x, hx⟩ := hx q
      by_cases hz : x = e ∨ x ∉ m.seq l
      · exact ⟨m.seq l, by rw [self]; exact mv_9_not q hl hr hx (.inr hz), rfl, List.Perm.refl _⟩
      · have hz1 : x ≠ e := fun a => hz (.inl a)
        have hz2 : x ∈ m.seq l := Classical.byContradiction (fun a => hz (.inr a))
        exact ⟨_, mv_9 q hl hr he hx hz2 hz1, rm_ins (not_mem_rm e _), pm _⟩
  · exact ⟨m.seq l, by rw [self]; exact mv_not hop hl hr he, rfl, List.Perm.refl _⟩
end
end Bead
end Go.Proofs.Ytidnmanljdadaaa

/- Plain laws: scripts whose calls stand at other places of another script; how many elements there are; which numbers are used. No program is in sight here. -/
namespace Go.Proofs.Ytidnmanljdadaaa
namespace Bead

theorem perm_mono {a b : Nat} (hab : a ≤ b) {m : Md} {c : Cl} (h : Permitted a m c) : Permitted b m c :=
  ⟨h.lo, h.hi, h.list, h.other, h.elem, h.mark, h.staleE, h.staleM, fun q => Nat.le_trans (h.room q) hab, fun q => Nat.lt_of_lt_of_le (h.space q) hab⟩
theorem ok_mono {a b : Nat} (hab : a ≤ b) : ∀ (cs : List Cl) {m : Md}, okFrom a m cs = true → okFrom b m cs = true
  | [], _, _ => rfl
  | c :: cs, m, h => by
    simp only [okFrom, Bool.and_eq_true] at h ⊢
    exact ⟨(permitted_iff _ _ _).2 (perm_mono hab ((permitted_iff _ _ _).1 h.1)), ok_mono hab cs h.2⟩

theorem step_cnt_le {most : Nat} {m : Md} {c : Cl} (hp : Permitted most m c) (h : m.cnt ≤ most) : (m.step c).1.cnt ≤ most := by
  have hi : ∀ b, c.op = 5 ∨ c.op = 6 → (m.grow.insert m.len c b).1.cnt ≤ most := by
    intro b hb
    have := hp.space (by omega)
    unfold Md.insert
    split
    · exact h
    · split
      · rw [answer_cnt]; exact this
      · exact h
  unfold Md.step
  split
  · unfold Md.change
    (repeat' split)
    · rw [answer_cnt]; exact hp.space (by omega)
    · rw [answer_cnt]; exact hp.space (by omega)
    · exact hi _ (by omega)
    · exact hi _ (by omega)
    · unfold Md.move Md.moveTo
      (repeat' split) <;> exact h
    · unfold Md.remove
      split
      · exact h
      · dsimp only; split <;> exact h
    · exact hp.room (by omega)
    · exact h
    · exact h
  · unfold Md.look
    (repeat' split)
    all_goals first | exact h | (rw [answer_cnt]; first | exact h | exact hp.space (by omega))
theorem run_cnt_le {most : Nat} : ∀ (cs : List Cl) {m : Md}, okFrom most m cs = true → m.cnt ≤ most → (runFrom m cs).cnt ≤ most
  | [], _, _, h => h
  | c :: cs, m, ho, h => by
    simp only [okFrom, Bool.and_eq_true] at ho
    exact run_cnt_le cs ho.2 (step_cnt_le ((permitted_iff _ _ _).1 ho.1) h)

theorem answer_lt {m X : Md} (h : WF m) (hf : X.fst = m.fst) (o : Option Nat) : (X.answer m.len o).2.elem ≤ m.len := by
  cases o with
  | none => show (-1 : Int) ≤ m.len; omega
  | some e =>
    simp only [Md.answer, Md.num, hf]
    cases q : m.fst e with
    | none => simp
    | some i => have := (h.rlt i e (h.fst1 e i q).1).1; simp; omega
theorem step_ans_lt {m : Md} (h : WF m) (c : Cl) : (m.step c).2.elem ≤ m.len := by
  have no : An.no.elem ≤ (m.len : Int) := by show (-1 : Int) ≤ m.len; omega
  have hi : ∀ b, (m.grow.insert m.len c b).2.elem ≤ m.len := by
    intro b
    unfold Md.insert
    split
    · exact no
    · split
      · exact answer_lt h (by rfl) _
      · exact no
  unfold Md.step
  split
  · unfold Md.change
    (repeat' split)
    · exact answer_lt h (by rfl) _
    · exact answer_lt h (by rfl) _
    · exact hi _
    · exact hi _
    · exact no
    · unfold Md.remove
      split
      · exact no
      · show (-1 : Int) ≤ m.len; omega
    · exact no
    · exact no
    · exact no
  · unfold Md.look
    (repeat' split)
    all_goals first | exact answer_lt h (by rfl) _ | exact no | (show (-1 : Int) ≤ m.len; omega)
theorem ans_lt {most : Nat} : ∀ (cs : List Cl) {m : Md}, WF m → okFrom most m cs = true → ∀ (j : Nat) (a : An), (ansFrom m cs)[j]? = some a → a.elem ≤ ((m.len + j : Nat) : Int)
  | [], _, _, _, j, a, h => by simp [ansFrom] at h
  | c :: cs, m, hw, ho, j, a, h => by
    simp only [okFrom, Bool.and_eq_true] at ho
    simp only [ansFrom] at h
    cases j with
    | zero => simp at h; subst h; exact step_ans_lt hw c
    | succ j =>
      simp at h
      have := ans_lt cs (hw.step ((permitted_iff _ _ _).1 ho.1)) ho.2 j a h
      rw [step_len] at this
      omega

/-- Which numbers a call uses: those of calls ahead of it. -/
structure Uses (n : Nat) (c : Cl) : Prop where
  list : 3 ≤ c.op → c.op ≤ 17 → 0 ≤ c.list ∧ c.list < n
  other : c.op = 12 ∨ c.op = 13 → 0 ≤ c.other ∧ c.other < n
  elem : (7 ≤ c.op ∧ c.op ≤ 11) ∨ 18 ≤ c.op → 0 ≤ c.elem ∧ c.elem < n
  mark : c.op = 5 ∨ c.op = 6 ∨ c.op = 9 ∨ c.op = 10 → 0 ≤ c.mark ∧ c.mark < n
theorem uses_of {most : Nat} : ∀ (cs : List Cl) {m : Md}, okFrom most m cs = true → ∀ (j : Nat) (c : Cl), cs[j]? = some c → Uses (m.len + j) c
  | [], _, _, _, _, h => by simp at h
  | x :: cs, m, ho, j, c, h => by
    simp only [okFrom, Bool.and_eq_true] at ho
    cases j with
    | zero =>
      simp at h; subst h
      have hp := (permitted_iff _ _ _).1 ho.1
      exact ⟨fun a b => ⟨(hp.list a b).1, (hp.list a b).2.1⟩, fun a => ⟨(hp.other a).1, (hp.other a).2.1⟩, fun a => ⟨(hp.elem a).1, (hp.elem a).2.1⟩, fun a => ⟨(hp.mark a).1, (hp.mark a).2.1⟩⟩
    | succ j =>
      simp at h
      have := uses_of cs ho.2 j c h
      rw [step_len] at this
      have e : m.len + 1 + j = m.len + (j + 1) := by omega
      rw [e] at this; exact this

theorem csims_of {rev : Bool} {V : Vl → Vl → Prop} {r l : Nat → Nat} : ∀ (cs cs' : List Cl), cs'.length = cs.length → (∀ (j : Nat) (c c' : Cl), cs[j]? = some c → cs'[j]? = some c' → CSim rev V r l c c') → CSims rev V r l cs cs'
  | [], [], _, _ => trivial
  | c :: cs, c' :: cs', hl, h => ⟨h 0 c c' rfl rfl, csims_of cs cs' (by simpa using hl) (fun j x y hx hy => h (j + 1) x y (by simpa using hx) (by simpa using hy))⟩
  | [], _ :: _, hl, _ => by simp at hl
  | _ :: _, [], hl, _ => by simp at hl
theorem ASims.get {V : Vl → Vl → Prop} {r : Nat → Nat} : ∀ {cs : List Cl} {p q : List An}, ASims V r cs p q → ∀ (j : Nat) (c : Cl) (x y : An), cs[j]? = some c → p[j]? = some x → q[j]? = some y → ASim V r c.op x y
  | [], _, _, _, j, c, x, y, h, _, _ => by simp at h
  | a :: cs, b :: p, d :: q, h, j, c, x, y, hc, hx, hy => by
    cases j with
    | zero => simp at hc hx hy; subst hc hx hy; exact h.1
    | succ j => simp at hc hx hy; exact ASims.get h.2 j c x y hc hx hy
  | _ :: _, [], _, h, _, _, _, _, _, _, _ => by simp [ASims] at h
  | _ :: _, _ :: _, [], h, _, _, _, _, _, _, _ => by simp [ASims] at h

/-- A number as the place of a list of places; those that it does not have are -1. -/
def placeAt (P : List Nat) (n : Int) : Int := if 0 ≤ n ∧ n < P.length then ((P.getD n.toNat 0 : Nat) : Int) else -1
/-- A call as it stands at given places. -/
def shiftC (P : List Nat) (c : Cl) : Cl := { c with list := placeAt P c.list, other := placeAt P c.other, elem := placeAt P c.elem, mark := placeAt P c.mark }
theorem placeAt_in {P : List Nat} {n : Int} (h0 : 0 ≤ n) (h1 : n < P.length) : placeAt P n = ((P.getD n.toNat 0 : Nat) : Int) := by unfold placeAt; rw [if_pos ⟨h0, h1⟩]
/-- A call at given places follows the call. -/
theorem shift_sim {P : List Nat} {r : Nat → Nat} (hr : ∀ i, i < P.length → r i = P.getD i 0) {n : Nat} {c : Cl} (hu : Uses n c) (hn : n ≤ P.length) : CSim false Eq r r c (shiftC P c) := by
  have g : ∀ x : Int, 0 ≤ x ∧ x < n → placeAt P x = ((r x.toNat : Nat) : Int) := fun x hx => by rw [hr _ (by omega)]; exact placeAt_in hx.1 (by omega)
  exact ⟨rfl, fun a b _ => g _ (hu.list a b), fun a _ => g _ (hu.other a), fun a _ => g _ (hu.elem a), fun a _ => g _ (hu.mark a), fun _ => rfl⟩

/-- An element's number as a place in a list of places. -/
def idxI (P : List Nat) (n : Int) : Int := if 0 ≤ n ∧ n.toNat ∈ P then ((P.idxOf n.toNat : Nat) : Int) else -1
def unplace (P : List Nat) (a : An) : An := if 0 ≤ a.elem then { a with elem := idxI P a.elem } else a
theorem unplace_sim {P : List Nat} {r : Nat → Nat} (hr : ∀ i, i < P.length → r i = P.getD i 0) (hP : P.Nodup) {op : Int} {x y : An} (h : ASim Eq r op x y) (hx : x.elem < P.length) : unplace P y = x := by
  obtain ⟨h1, h2, h3⟩ := h
  have e2 : y.v = x.v := by
    split at h3
    · exact h3.symm
    · rw [h3.1, h3.2]
  rcases h2 with ⟨p, q⟩ | ⟨i, p, q⟩
  · unfold unplace
    rw [q, if_neg (by omega)]
    cases x; cases y; simp_all
  · have hi : i < P.length := by rw [p] at hx; omega
    unfold unplace
    rw [if_pos (by rw [q]; omega)]
    have e1 : idxI P y.elem = x.elem := by
      have hg : P[i]? = some P[i] := List.getElem?_eq_getElem hi
      have hgd : r i = P[i] := by rw [hr i hi]; simp [hi]
      unfold idxI
      rw [q, p]
      simp only [Int.toNat_natCast, hgd]
      rw [if_pos ⟨by omega, List.getElem_mem hi⟩, idxOf_of_get hP hg]
    cases x; cases y; simp_all
end Bead
end Go.Proofs.Ytidnmanljdadaaa

/- Plain laws: what is seen of a list behind two walks through it. No program is in sight here. -/
namespace Go.Proofs.Ytidnmanljdadaaa
namespace Bead

theorem nodup_length : ∀ (n : Nat) {s : List Nat}, s.Nodup → (∀ x ∈ s, x < n) → s.length ≤ n
  | 0, s, _, h => by
    cases s with
    | nil => simp
    | cons a s => have := h a (by simp); omega
  | n + 1, s, hn, h => by
    by_cases q : n ∈ s
    · have h1 := rm_length hn q
      have h2 := nodup_length n (s := rm n s) (hn.filter _) (fun x hx => by have := mem_rm.1 hx; have := h x this.1; omega)
      omega
    · have := nodup_length n hn (fun x hx => by have := h x hx; have : x ≠ n := fun z => q (z ▸ hx); omega)
      omega

def cGet (i : Nat) : Cl := ⟨20, 0, 0, i, 0, Vl.zero⟩
def cLen (l : Nat) : Cl := ⟨17, l, 0, 0, 0, Vl.zero⟩
theorem perm_len {most : Nat} {m : Md} (h : WF m) {l : Nat} (hl : m.isL l = true) : Permitted most m (cLen l) := by
  have := h.isl l hl
  refine ⟨by simp [cLen], by simp [cLen], fun _ _ => ⟨by simp [cLen], by simp only [cLen]; omega, by simpa [cLen] using hl⟩, fun q => ?_, fun q => ?_, fun q => ?_, fun q => ?_, fun q => ?_, fun q => ?_, fun q => ?_⟩ <;> simp [cLen] at q
theorem ok_len {most : Nat} {cs : List Cl} (ho : okFrom most Md.init cs = true) {l : Nat} (hl : (runFrom Md.init cs).isL l = true) : okFrom most Md.init (cs ++ [cLen l]) = true := by
  rw [okFrom_append, ho]
  simp only [okFrom, Bool.and_true, Bool.true_and]
  exact (permitted_iff _ _ _).2 (perm_len (WF.run cs WF.init ho) hl)
theorem ans_len (m : Md) (l : Nat) : ansFrom m [cLen l] = [⟨-1, ((m.seq l).length : Nat), Vl.zero⟩] := by
  simp only [ansFrom]
  rw [step_17 m (c := cLen l) rfl]; rfl

theorem perm_get {most : Nat} {m : Md} (h : WF m) {i e : Nat} (hr : m.ret i = some e) : Permitted most m (cGet i) := by
  have := (h.rlt i e hr).1
  refine ⟨by simp [cGet], by simp [cGet], fun _ q => ?_, fun q => ?_, fun q => ⟨by simp [cGet], by simp only [cGet]; omega, e, by simpa [cGet] using hr⟩, fun q => ?_, fun q => ?_, fun q => ?_, fun q => ?_, fun q => ?_⟩
  · simp [cGet] at q
  · simp [cGet] at q
  · simp [cGet] at q
  · unfold Md.stale
    simp only [cGet, Int.toNat_natCast, hr]
    split
    · rfl
    · simp
  · simp [cGet] at q
  · simp [cGet] at q
  · simp [cGet] at q
theorem grow_ext (m : Md) : Ext m m.grow := ⟨rfl, rfl, rfl, rfl, rfl, rfl, Nat.le_succ _, fun _ _ => rfl, fun _ _ h => h⟩
theorem gets_all (nm : Nat → Nat) : ∀ (L : List Nat) {m : Md} {most : Nat}, WF m → (∀ e ∈ L, m.ret (nm e) = some e) →
    okFrom most m (L.map fun e => cGet (nm e)) = true ∧ ansFrom m (L.map fun e => cGet (nm e)) = L.map (fun e => (⟨-1, 0, m.val e⟩ : An)) ∧ Ext m (runFrom m (L.map fun e => cGet (nm e)))
  | [], m, _, _, _ => ⟨rfl, rfl, Ext.refl m⟩
  | e :: L, m, most, h, hr => by
    have hre := hr e (by simp)
    have st : m.step (cGet (nm e)) = (m.grow, ⟨-1, 0, m.val e⟩) := step_20 m (c := cGet (nm e)) rfl hre
    obtain ⟨h1, h2, h3⟩ := gets_all nm L (m := m.grow) (most := most) h.grow (fun x hx => hr x (by simp [hx]))
    simp only [List.map_cons, okFrom, ansFrom, runFrom, st, h1, h2, Bool.and_true]
    exact ⟨(permitted_iff _ _ _).2 (perm_get h hre), rfl, (grow_ext m).trans h3⟩

/-- Both walks through a list. -/
def Md.both (m : Md) (l : Nat) : List Cl := m.walk false l ++ (m.behindWalk false l).walk true l
def Md.behindBoth (m : Md) (l : Nat) : Md := (m.behindWalk false l).behindWalk true l
theorem both_ext (m : Md) (l : Nat) : Ext m (m.behindBoth l) := (walked_ext m _ _).trans (walked_ext _ _ _)
theorem both_names {m : Md} {l : Nat} : (m.behindWalk false l).names (m.seq l).reverse = (m.names (m.seq l)).reverse := by
  have := walked_names (m := m) (S := m.seq l) (T := (m.seq l).reverse) (j := (m.seq l).length + 1) (by omega) (fun e he => List.mem_reverse.1 he)
  show (m.walked (m.seq l) _).names _ = _
  rw [this, List.map_reverse]; rfl
theorem both_fst {m : Md} {l e : Nat} (he : e ∈ m.seq l) : (m.behindBoth l).fst e = some (m.name (m.seq l) e) :=
  (walked_ext (m.behindWalk false l) _ _).fst e _ (walked_fst (m := m) (S := dir false (m.seq l)) he (by simp [dir]))
/-- What is read behind the walks. -/
def Md.reads (m : Md) (l : Nat) : List Cl := (m.names (m.seq l)).map cGet ++ [cLen l]
theorem see_all {m : Md} {most : Nat} (h : WF m) {l : Nat} (hl : m.isL l = true) :
    okFrom most m (m.both l) = true ∧ runFrom m (m.both l) = m.behindBoth l ∧ WF (m.behindBoth l) ∧ okFrom most (m.behindBoth l) (m.reads l) = true ∧
    ansFrom (m.behindBoth l) (m.reads l) = ((m.seq l).map fun e => (⟨-1, 0, m.val e⟩ : An)) ++ [⟨-1, ((m.seq l).length : Nat), Vl.zero⟩] := by
  have h1 := walk_wf h false hl
  have h2 := walk_wf h1 true (l := l) hl
  have hr : ∀ e ∈ m.seq l, (m.behindBoth l).ret (m.name (m.seq l) e) = some e := fun e he => (h2.fst1 e _ (both_fst he)).1
  obtain ⟨g1, g2, g3⟩ := gets_all (m.name (m.seq l)) (m.seq l) (m := m.behindBoth l) (most := most) h2 hr
  have ee : (m.seq l).map (fun e => cGet (m.name (m.seq l) e)) = (m.names (m.seq l)).map cGet := by simp [Md.names]
  rw [ee] at g1 g2 g3
  refine ⟨?_, ?_, h2, ?_, ?_⟩
  · unfold Md.both; rw [okFrom_append, walk_ok h false hl, walk_run h false hl, walk_ok h1 true (l := l) hl]; rfl
  · unfold Md.both; rw [runFrom_append, walk_run h false hl, walk_run h1 true (l := l) hl]; rfl
  · unfold Md.reads
    rw [okFrom_append, g1]
    simp only [okFrom, Bool.and_true, Bool.true_and]
    refine (permitted_iff _ _ _).2 (perm_len (WF.run _ h2 g1) ?_)
    show (runFrom (m.behindBoth l) _).isL l = true
    rw [g3.isL, (both_ext m l).isL]; exact hl
  · unfold Md.reads
    rw [ansFrom_append, g2, ans_len, g3.seq, (both_ext m l).seq, (both_ext m l).val]
end Bead
end Go.Proofs.Ytidnmanljdadaaa

/- Plain laws: the walks through all lists of a script. No program is in sight here. -/
namespace Go.Proofs.Ytidnmanljdadaaa
namespace Bead

theorem tour_snoc : ∀ (Ls : List Nat) (l : Nat) (m : Md), m.tour (Ls ++ [l]) = m.tour Ls ++ (m.behindTour Ls).walk false l ∧ m.behindTour (Ls ++ [l]) = (m.behindTour Ls).behindWalk false l
  | [], l, m => by simp [Md.tour, Md.behindTour]
  | k :: Ls, l, m => by
    obtain ⟨h1, h2⟩ := tour_snoc Ls l (m.behindWalk false k)
    simp only [List.cons_append, Md.tour, Md.behindTour, h1, h2, List.append_assoc, and_self]
theorem tour_length (N : Nat) : ∀ (Ls : List Nat) (m : Md), (∀ l, (m.seq l).length ≤ N) → (m.tour Ls).length ≤ Ls.length * (N + 1)
  | [], m, _ => by simp [Md.tour]
  | l :: Ls, m, h => by
    have h1 := tour_length N Ls (m.behindWalk false l) h
    have h2 := h l
    simp only [Md.tour, List.length_append, walk_length, List.length_cons]
    rw [Nat.succ_mul]; omega
theorem tour_made : ∀ (Ls : List Nat) (m : Md), ∀ c ∈ m.tour Ls, madeB c = false
  | [], m, c, h => by simp [Md.tour] at h
  | l :: Ls, m, c, h => by
    simp only [Md.tour, List.mem_append] at h
    rcases h with h | h
    · simp only [Md.walk, walkC, List.mem_cons, List.mem_map] at h
      rcases h with rfl | ⟨j, _, rfl⟩
      · simp [madeB, cEnd]
      · simp [madeB, cOn]
    · exact tour_made Ls _ c h
/-- The script with the walks through all of its lists. -/
def namedC (cs : List Cl) : List Cl := cs ++ (runFrom Md.init cs).tour (listsOf cs)
theorem named_lists (cs : List Cl) : listsOf (namedC cs) = listsOf cs := by
  unfold listsOf namedC
  rw [listsAt_append, listsAt_none _ _ (tour_made _ _), List.append_nil]
theorem mem_lists {cs : List Cl} : ∀ l ∈ listsOf cs, (runFrom Md.init cs).isL l = true := fun l h => (listsOf_iff cs l).1 h
/-- A script that is permitted, all of whose elements in lists have numbers, with a list of it. -/
structure Scened (ns : List Cl) (l : Nat) : Prop where
  ok : okFrom 500 Md.init ns = true
  wf : WF (runFrom Md.init ns)
  lst : (runFrom Md.init ns).isL l = true
  named : ∀ k e, e ∈ (runFrom Md.init ns).seq k → ∃ i, (runFrom Md.init ns).fst e = some i
  len : ns.length ≤ 600000000
theorem named_scene {cs : List Cl} (ho : okFrom 500 Md.init cs = true) (hlen : cs.length ≤ 1048576) {l : Nat} (hl : l ∈ listsOf cs) : Scened (namedC cs) l := by
  have hw := WF.run cs WF.init ho
  obtain ⟨h1, h2, h3, h4⟩ := tour_all (most := 500) (listsOf cs) hw mem_lists
  have e : runFrom Md.init (namedC cs) = (runFrom Md.init cs).behindTour (listsOf cs) := by unfold namedC; rw [runFrom_append, h2]
  have x := tour_ext (listsOf cs) (runFrom Md.init cs)
  have hN : ∀ k, ((runFrom Md.init cs).seq k).length ≤ 500 := fun k => by
    have a := nodup_length _ (hw.nodup k) (fun _ hx => hw.lt hx)
    have b := run_cnt_le cs ho (by simp [Md.init])
    omega
  refine ⟨?_, ?_, ?_, ?_, ?_⟩
  · unfold namedC; rw [okFrom_append, ho, h1]; rfl
  · rw [e]; exact h3
  · rw [e, x.isL]; exact mem_lists l hl
  · intro k f hf
    rw [e, x.seq] at hf
    rw [e]
    exact h4 k ((listsOf_iff cs k).2 (hw.isL_of_mem hf)) f hf
  · have a := tour_length 500 (listsOf cs) (runFrom Md.init cs) hN
    have b : (listsOf cs).length ≤ cs.length := listsAt_length cs 0
    have c : (listsOf cs).length * 501 ≤ cs.length * 501 := Nat.mul_le_mul_right _ b
    unfold namedC
    rw [List.length_append]
    omega
end Bead
end Go.Proofs.Ytidnmanljdadaaa

/- Plain laws: a move leaves all lists with the values that removing the element and inserting its value leaves. No program is in sight here. -/
namespace Go.Proofs.Ytidnmanljdadaaa
namespace Bead

def cMv (op : Int) (i j : Nat) : Cl := ⟨op, 0, 0, i, j, Vl.zero⟩
def cIns (op : Int) (j : Nat) (v : Vl) : Cl := ⟨op, 0, 0, 0, j, v⟩
def onL (l : Nat) (c : Cl) : Cl := { c with list := l }
/-- Where a move, or an insertion, of a kind puts the element among the others. -/
def posOf (op : Int) (x : Nat) (t : List Nat) : Nat := if op = 7 then 0 else if op = 8 then t.length else t.idxOf x + if op = 10 then 1 else 0

section
variable {m : Md} {l e x i j : Nat} {op : Int}
theorem perm_mv (h : WF m) (hop : op = 7 ∨ op = 8 ∨ op = 9 ∨ op = 10) (hl : m.isL l = true) (hi : m.ret i = some e) (he : e ∈ m.seq l) (hx : op = 9 ∨ op = 10 → m.ret j = some x ∧ x ∈ m.seq l) {most : Nat} : Permitted most m (onL l (cMv op i j)) := by
  have h1 := h.isl l hl
  have h2 := (h.rlt i e hi).1
  have st : ∀ n y, m.ret n = some y → y ∈ m.seq l → m.stale (onL l (cMv op i j)) (n : Nat) = false := fun n y hn hy => by
    unfold Md.stale
    simp only [Int.toNat_natCast, hn, clr_in h hy]
  refine ⟨by show 0 ≤ op; omega, by show op < 22; omega, fun _ _ => ⟨by simp [onL], by simp only [onL]; omega, by simpa [onL] using hl⟩, fun q => ?_, fun _ => ⟨by simp [onL, cMv], by simp only [onL, cMv]; omega, e, by simpa [onL, cMv] using hi⟩, fun q => ?_, fun _ => st i e hi he, fun q => ?_, fun q => ?_, fun q => ?_⟩
  · have : op = 12 ∨ op = 13 := q
    omega
  · have q' : op = 9 ∨ op = 10 := by have : op = 5 ∨ op = 6 ∨ op = 9 ∨ op = 10 := q; omega
    obtain ⟨a, b⟩ := hx q'
    have := (h.rlt j x a).1
    exact ⟨by simp [onL, cMv], by simp only [onL, cMv]; omega, x, by simpa [onL, cMv] using a⟩
  · have q' : op = 9 ∨ op = 10 := by have : op = 5 ∨ op = 6 ∨ op = 9 ∨ op = 10 := q; omega
    obtain ⟨a, b⟩ := hx q'
    exact st j x a b
  · have : op = 12 ∨ op = 13 := q
    omega
  · have : op = 2 ∨ op = 3 ∨ op = 4 ∨ op = 5 ∨ op = 6 := q
    omega
theorem mv_step (hop : op = 7 ∨ op = 8 ∨ op = 9 ∨ op = 10) (hi : m.ret i = some e) (he : e ∈ m.seq l) (hx : op = 9 ∨ op = 10 → m.ret j = some x ∧ x ∈ m.seq l ∧ x ≠ e) :
    m.step (onL l (cMv op i j)) = (m.grow.setSeq l (ins (posOf op x (rm e (m.seq l))) e (rm e (m.seq l))), An.no) := by
  have hl : (onL l (cMv op i j)).list.toNat = l := by simp [onL]
  have hi' : m.ret (onL l (cMv op i j)).elem.toNat = some e := by simpa [onL, cMv] using hi
  rcases (show op = 7 ∨ op = 8 ∨ (op = 9 ∨ op = 10) by omega) with q | q | q
  · rw [mv_7 (c := onL l (cMv op i j)) q hl hi' he]
    simp [posOf, q, ins]
  · rw [mv_8 (c := onL l (cMv op i j)) q hl hi' he]
    simp [posOf, q, ins]
  · obtain ⟨a, b, d⟩ := hx q
    rw [mv_9 (c := onL l (cMv op i j)) q hl hi' he (by simpa [onL, cMv] using a) b d]
    have : beside (onL l (cMv op i j)) x (rm e (m.seq l)) = posOf op x (rm e (m.seq l)) := by
      unfold beside posOf
      have h7 : ¬ op = 7 := by omega
      have h8 : ¬ op = 8 := by omega
      rw [if_neg h7, if_neg h8]; rfl
    rw [this]

/-- What a push or an insertion leaves. -/
structure Insd (m m' : Md) (l k : Nat) (v : Vl) : Prop where
  seq : m'.seq = upd m.seq l (ins k m.cnt (m.seq l))
  val : m'.val = upd m.val m.cnt (canon v)
  isL : m'.isL = m.isL
  fst : m'.fst = upd m.fst m.cnt (some ((m.fst m.cnt).getD m.len))
  inn : m'.inn = upd m.inn m.cnt (some l)
  ret : m'.ret = upd m.ret m.len (some m.cnt)
  len : m'.len = m.len + 1
  cnt : m'.cnt = m.cnt + 1
theorem insd_of (v : Vl) (k : Nat) : Insd m (((m.grow.make v (some l)).put l k m.cnt).answer m.len (some m.cnt)).1 l k v := ⟨rfl, rfl, rfl, rfl, rfl, rfl, rfl, rfl⟩
/-- The kinds 3 to 6 against 7 to 10. -/
theorem ins_step (hop : op = 7 ∨ op = 8 ∨ op = 9 ∨ op = 10) {c : Cl} (hc : c.op = op - 4) (hl : c.list.toNat = l) (hx : op = 9 ∨ op = 10 → m.ret c.mark.toNat = some x ∧ x ∈ m.seq l) : Insd m (m.step c).1 l (posOf op x (m.seq l)) c.v := by
  rcases hop with q | q | q | q
  · rw [step_3 m (c := c) (by omega), hl]; simp only [posOf, q, if_true]; exact insd_of _ _
  · rw [step_4 m (c := c) (by omega), hl]; simp only [posOf, q]; exact insd_of _ _
  · obtain ⟨a, b⟩ := hx (.inl q)
    rw [step_5 m (c := c) (by omega)]
    unfold Md.insert
    have a' : m.grow.ret c.mark.toNat = some x := a
    have b' : x ∈ m.grow.seq l := b
    rw [a', hl]; simp only [if_pos b', posOf, q]; exact insd_of _ _
  · obtain ⟨a, b⟩ := hx (.inr q)
    rw [step_6 m (c := c) (by omega)]
    unfold Md.insert
    have a' : m.grow.ret c.mark.toNat = some x := a
    have b' : x ∈ m.grow.seq l := b
    rw [a', hl]; simp only [if_pos b', posOf, q]; exact insd_of _ _
theorem perm_ins (h : WF m) (hop : op = 7 ∨ op = 8 ∨ op = 9 ∨ op = 10) (hl : m.isL l = true) {v : Vl} (hx : op = 9 ∨ op = 10 → m.ret j = some x ∧ x ∈ m.seq l) {most : Nat} (hm : m.cnt < most) : Permitted most m (onL l (cIns (op - 4) j v)) := by
  have h1 := h.isl l hl
  refine ⟨by show 0 ≤ op - 4; omega, by show op - 4 < 22; omega, fun _ _ => ⟨by simp [onL], by simp only [onL]; omega, by simpa [onL] using hl⟩, fun q => ?_, fun q => ?_, fun q => ?_, fun q => ?_, fun q => ?_, fun q => ?_, fun q => hm⟩
  · have : op - 4 = 12 ∨ op - 4 = 13 := q
    omega
  · have : (7 ≤ op - 4 ∧ op - 4 ≤ 11) ∨ 18 ≤ op - 4 := q
    omega
  · have q' : op = 9 ∨ op = 10 := by have : op - 4 = 5 ∨ op - 4 = 6 ∨ op - 4 = 9 ∨ op - 4 = 10 := q; omega
    obtain ⟨a, b⟩ := hx q'
    have := (h.rlt j x a).1
    exact ⟨by simp [onL, cIns], by simp only [onL, cIns]; omega, x, by simpa [onL, cIns] using a⟩
  · have : (7 ≤ op - 4 ∧ op - 4 ≤ 11) ∨ 18 ≤ op - 4 := q
    omega
  · have q' : op = 9 ∨ op = 10 := by have : op - 4 = 5 ∨ op - 4 = 6 ∨ op - 4 = 9 ∨ op - 4 = 10 := q; omega
    obtain ⟨a, b⟩ := hx q'
    unfold Md.stale
    simp only [onL, cIns, Int.toNat_natCast, a, clr_in h b]
  · have : op - 4 = 12 ∨ op - 4 = 13 := q
    omega
theorem rem_step (hi : m.ret i = some e) (he : e ∈ m.seq l) : m.step (onL l (cMv 11 i j)) = (m.grow.drop l e, ⟨-1, 0, m.val e⟩) := by
  rw [step_11 m (c := onL l (cMv 11 i j)) rfl]
  unfold Md.remove
  have hi' : m.grow.ret (onL l (cMv 11 i j)).elem.toNat = some e := by show m.ret _ = _; simpa [onL, cMv] using hi
  have hl : (onL l (cMv 11 i j)).list.toNat = l := by simp [onL]
  have he' : e ∈ m.grow.seq l := he
  rw [hi', hl]
  simp only [if_pos he']
  rfl
theorem perm_rem (h : WF m) (hl : m.isL l = true) (hi : m.ret i = some e) (he : e ∈ m.seq l) {most : Nat} : Permitted most m (onL l (cMv 11 i j)) := by
  have h1 := h.isl l hl
  have h2 := (h.rlt i e hi).1
  refine ⟨by simp [onL, cMv], by simp [onL, cMv], fun _ _ => ⟨by simp [onL], by simp only [onL]; omega, by simpa [onL] using hl⟩, fun q => ?_, fun _ => ⟨by simp [onL, cMv], by simp only [onL, cMv]; omega, e, by simpa [onL, cMv] using hi⟩, fun q => ?_, fun _ => ?_, fun q => ?_, fun q => ?_, fun q => ?_⟩
  · simp [onL, cMv] at q
  · simp [onL, cMv] at q
  · unfold Md.stale
    simp only [onL, cMv, Int.toNat_natCast, hi, clr_in h he]
  · simp [onL, cMv] at q
  · simp [onL, cMv] at q
  · simp [onL, cMv] at q
end

theorem ins_map {t : List Nat} {k e n : Nat} {f g : Nat → Vl} (h1 : f e = g n) (h2 : ∀ y ∈ t, f y = g y) : (ins k e t).map f = (ins k n t).map g := by
  unfold ins
  rw [List.map_append, List.map_append, List.map_cons, List.map_cons, h1]
  congr 1
  · exact List.map_congr_left (fun y hy => h2 y (List.mem_of_mem_take hy))
  · congr 1
    exact List.map_congr_left (fun y hy => h2 y (List.mem_of_mem_drop hy))

/-- A move, and a removal with an insertion of the value. -/
theorem move_insert {ns : List Cl} {l : Nat} (h : Scened ns l) {op : Int} (hop : op = 7 ∨ op = 8 ∨ op = 9 ∨ op = 10) {e i x j : Nat} (he : e ∈ (runFrom Md.init ns).seq l) (hi : (runFrom Md.init ns).ret i = some e)
    (hx : op = 9 ∨ op = 10 → (runFrom Md.init ns).ret j = some x ∧ x ∈ (runFrom Md.init ns).seq l ∧ x ≠ e) :
    okFrom 501 Md.init (ns ++ [onL l (cMv op i j)]) = true ∧ okFrom 501 Md.init (ns ++ [onL l (cMv 11 i 0), onL l (cIns (op - 4) j ((runFrom Md.init ns).val e))]) = true ∧
    ∀ k, ((runFrom Md.init (ns ++ [onL l (cMv op i j)])).seq k).map (runFrom Md.init (ns ++ [onL l (cMv op i j)])).val =
      ((runFrom Md.init (ns ++ [onL l (cMv 11 i 0), onL l (cIns (op - 4) j ((runFrom Md.init ns).val e))])).seq k).map (runFrom Md.init (ns ++ [onL l (cMv 11 i 0), onL l (cIns (op - 4) j ((runFrom Md.init ns).val e))])).val := by
  have ok1 : okFrom 501 Md.init ns = true := ok_mono (by decide) _ h.ok
  have hc5 := run_cnt_le ns h.ok (by simp [Md.init])
  have hw := h.wf
  have hl := h.lst
  generalize hM : runFrom Md.init ns = M at *
  have pa := perm_mv hw hop hl hi he (j := j) (x := x) (fun q => ⟨(hx q).1, (hx q).2.1⟩) (most := 501)
  have sa := mv_step (m := M) hop hi he hx
  have p1 := perm_rem hw hl hi he (j := 0) (most := 501)
  have s1 := rem_step (m := M) (j := 0) hi he
  have hw1 := hw.step p1
  rw [s1] at hw1
  have hx1 : op = 9 ∨ op = 10 → (M.grow.drop l e).ret j = some x ∧ x ∈ (M.grow.drop l e).seq l := fun q => by
    obtain ⟨a, b, d⟩ := hx q
    refine ⟨a, ?_⟩
    show x ∈ upd M.seq l _ l
    rw [upd_same]
    exact mem_rm.2 ⟨b, d⟩
  have p2 := perm_ins hw1 hop (l := l) hl (v := M.val e) (j := j) (x := x) hx1 (most := 501) (by show M.cnt < 501; omega)
  have s2 := ins_step (m := M.grow.drop l e) (x := x) (l := l) hop (c := onL l (cIns (op - 4) j (M.val e))) rfl (by simp [onL]) (fun q => by simpa [onL, cIns] using hx1 q)
  refine ⟨?_, ?_, fun k => ?_⟩
  · rw [okFrom_append, ok1, hM]
    simp only [okFrom, Bool.and_true, Bool.true_and]
    exact (permitted_iff _ _ _).2 pa
  · rw [okFrom_append, ok1, hM]
    simp only [okFrom, Bool.and_true, Bool.true_and, s1, Bool.and_eq_true]
    exact ⟨(permitted_iff _ _ _).2 p1, (permitted_iff _ _ _).2 p2⟩
  · rw [runFrom_append, runFrom_append, hM]
    simp only [runFrom, sa, s1, s2.seq, s2.val]
    have hd : (M.grow.drop l e).seq = upd M.seq l (rm e (M.seq l)) := rfl
    have hcv : canon (M.val e) = M.val e := hw.can e
    show ((upd M.seq l (ins (posOf op x (rm e (M.seq l))) e (rm e (M.seq l)))) k).map M.val = ((upd (upd M.seq l (rm e (M.seq l))) l _) k).map (upd M.val M.cnt (canon (M.val e)))
    by_cases q : k = l
    · subst q
      rw [upd_same, upd_same, hd, upd_same, hcv]
      exact ins_map (by rw [show (M.grow.drop k e).cnt = M.cnt from rfl, upd_same]) (fun y hy => by rw [upd_other _ _ (by have := hw.lt (mem_rm.1 hy).1; omega)])
    · rw [upd_other _ _ q, upd_other _ _ q, upd_other _ _ q]
      exact List.map_congr_left (fun y hy => by rw [upd_other _ _ (by have := hw.lt hy; omega)])
end Bead
end Go.Proofs.Ytidnmanljdadaaa
