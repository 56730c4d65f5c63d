/- The plain model: what scripts of calls do, on sequences, as the reference says it. No program is in sight here. -/
import Derived.Test.YtidnmanljdadaaaRing
set_option linter.all false
namespace Go.Proofs.Ytidnmanljdadaaa
namespace Bead

structure Vl where
  kind : Int
  n : Int
  s : ByteArray

instance : DecidableEq Vl := fun a b =>
  if h : a.kind = b.kind ∧ a.n = b.n ∧ a.s = b.s then isTrue (by cases a; cases b; simp_all) else isFalse (by intro e; subst e; simp at h)

def Vl.zero : Vl := ⟨0, 0, ByteArray.empty⟩

structure Cl where
  op : Int
  list : Int
  other : Int
  elem : Int
  mark : Int
  v : Vl

structure An where
  elem : Int
  n : Int
  v : Vl

instance : DecidableEq An := fun a b =>
  if h : a.elem = b.elem ∧ a.n = b.n ∧ a.v = b.v then isTrue (by cases a; cases b; simp_all) else isFalse (by intro e; subst e; simp at h)

/-- The answer of a call that returns nothing. -/
def An.no : An := ⟨-1, 0, Vl.zero⟩

def canon (v : Vl) : Vl :=
  if v.kind = 1 ∨ v.kind = 4 ∨ v.kind = 6 then ⟨v.kind, v.n, ByteArray.empty⟩
  else if v.kind = 2 then ⟨2, 0, v.s⟩
  else if v.kind = 3 then (if v.n = 0 then ⟨3, 0, ByteArray.empty⟩ else ⟨3, 1, ByteArray.empty⟩)
  else if v.kind = 5 then v
  else Vl.zero

theorem canon_canon (v : Vl) : canon (canon v) = canon v := by
  unfold canon
  by_cases h1 : v.kind = 1 ∨ v.kind = 4 ∨ v.kind = 6
  · simp [h1]
  · by_cases h2 : v.kind = 2
    · simp [h2]
    · by_cases h3 : v.kind = 3
      · by_cases h4 : v.n = 0 <;> simp [h3, h4]
      · by_cases h5 : v.kind = 5
        · simp [h5]
        · simp [h1, h2, h3, h5, Vl.zero]

/-- A state: how many calls have been made and how many elements; by the numbers of the calls: which made a list, the sequences, the elements that calls returned; by the elements: their values, the lists that have them, those from which they were cleared, the first calls that returned them. -/
structure Md where
  len : Nat
  cnt : Nat
  isL : Nat → Bool
  seq : Nat → List Nat
  ret : Nat → Option Nat
  val : Nat → Vl
  inn : Nat → Option Nat
  clr : Nat → Option Nat
  fst : Nat → Option Nat

def Md.init : Md := ⟨0, 0, fun _ => false, fun _ => [], fun _ => none, fun _ => Vl.zero, fun _ => none, fun _ => none, fun _ => none⟩

def Md.make (m : Md) (v : Vl) (l : Option Nat) : Md := { m with cnt := m.cnt + 1, val := upd m.val m.cnt (canon v), inn := upd m.inn m.cnt l }
def Md.setSeq (m : Md) (l : Nat) (s : List Nat) : Md := { m with seq := upd m.seq l s }
/-- Call i returns the element e. -/
def Md.give (m : Md) (i e : Nat) : Md := { m with ret := upd m.ret i (some e), fst := upd m.fst e (some ((m.fst e).getD i)) }
def Md.num (m : Md) (i e : Nat) : An := ⟨((m.fst e).getD i : Nat), 0, Vl.zero⟩
def Md.answer (m : Md) (i : Nat) : Option Nat → Md × An
  | none => (m, An.no)
  | some e => (m.give i e, m.num i e)
def Md.put (m : Md) (l k e : Nat) : Md := m.setSeq l ((m.seq l).take k ++ e :: (m.seq l).drop k)
def Md.take (m : Md) (l e : Nat) : Md := m.setSeq l ((m.seq l).filter fun x => decide (x ≠ e))

/-- Copies of the elements xs, for the list l. -/
def Md.copy (m : Md) (l : Nat) (xs : List Nat) : Md :=
  { m with cnt := m.cnt + xs.length, val := fun e => if m.cnt ≤ e ∧ e < m.cnt + xs.length then m.val (xs.getD (e - m.cnt) 0) else m.val e,
           inn := fun e => if m.cnt ≤ e ∧ e < m.cnt + xs.length then some l else m.inn e }
def Md.clear (m : Md) (l : Nat) : Md :=
  { m with seq := upd m.seq l [], inn := fun e => if e ∈ m.seq l then none else m.inn e, clr := fun e => if e ∈ m.seq l then some l else m.clr e }
def Md.drop (m : Md) (l e : Nat) : Md := { m.take l e with inn := upd m.inn e none }

def Md.insert (m : Md) (i : Nat) (c : Cl) (behind : Nat) : Md × An :=
  match m.ret c.mark.toNat with
  | none => (m, An.no)
  | some k => if k ∈ m.seq c.list.toNat then ((m.make c.v (some c.list.toNat)).put c.list.toNat ((m.seq c.list.toNat).idxOf k + behind) m.cnt).answer i (some m.cnt) else (m, An.no)

def Md.moveTo (m : Md) (c : Cl) (l e : Nat) : Md :=
  if c.op = 7 then (m.take l e).put l 0 e
  else if c.op = 8 then (m.take l e).put l ((m.take l e).seq l).length e
  else match m.ret c.mark.toNat with
    | none => m
    | some k => if k = e ∨ k ∉ m.seq l then m else (m.take l e).put l (((m.take l e).seq l).idxOf k + if c.op = 10 then 1 else 0) e
def Md.move (m : Md) (c : Cl) : Md :=
  match m.ret c.elem.toNat with
  | none => m
  | some e => if e ∈ m.seq c.list.toNat then m.moveTo c c.list.toNat e else m
def Md.copies (m : Md) (c : Cl) : Md :=
  (m.copy c.list.toNat (m.seq c.other.toNat)).setSeq c.list.toNat
    (if c.op = 12 then m.seq c.list.toNat ++ List.range' m.cnt (m.seq c.other.toNat).length else List.range' m.cnt (m.seq c.other.toNat).length ++ m.seq c.list.toNat)
def Md.remove (m : Md) (c : Cl) : Md × An :=
  match m.ret c.elem.toNat with
  | none => (m, An.no)
  | some e => (if e ∈ m.seq c.list.toNat then m.drop c.list.toNat e else m, ⟨-1, 0, m.val e⟩)

def Md.change (m : Md) (i : Nat) (c : Cl) : Md × An :=
  if c.op = 3 then ((m.make c.v (some c.list.toNat)).put c.list.toNat 0 m.cnt).answer i (some m.cnt)
  else if c.op = 4 then ((m.make c.v (some c.list.toNat)).put c.list.toNat (m.seq c.list.toNat).length m.cnt).answer i (some m.cnt)
  else if c.op = 5 then m.insert i c 0
  else if c.op = 6 then m.insert i c 1
  else if c.op = 7 ∨ c.op = 8 ∨ c.op = 9 ∨ c.op = 10 then (m.move c, An.no)
  else if c.op = 11 then m.remove c
  else if c.op = 12 ∨ c.op = 13 then (m.copies c, An.no)
  else if c.op = 14 then (m.clear c.list.toNat, An.no)
  else (m, An.no)

def Md.next (m : Md) (e : Nat) : Option Nat :=
  match m.inn e with
  | none => none
  | some l => (m.seq l)[(m.seq l).idxOf e + 1]?
def Md.prev (m : Md) (e : Nat) : Option Nat :=
  match m.inn e with
  | none => none
  | some l => if (m.seq l).idxOf e = 0 then none else (m.seq l)[(m.seq l).idxOf e - 1]?

def Md.look (m : Md) (i : Nat) (c : Cl) : Md × An :=
  if c.op = 0 ∨ c.op = 1 then ({ m with isL := upd m.isL i true }, An.no)
  else if c.op = 2 then (m.make c.v none).answer i (some m.cnt)
  else if c.op = 15 then m.answer i (m.seq c.list.toNat).head?
  else if c.op = 16 then m.answer i (m.seq c.list.toNat).getLast?
  else if c.op = 17 then (m, ⟨-1, (m.seq c.list.toNat).length, Vl.zero⟩)
  else match m.ret c.elem.toNat with
    | none => (m, An.no)
    | some e =>
      if c.op = 18 then m.answer i (m.next e)
      else if c.op = 19 then m.answer i (m.prev e)
      else if c.op = 20 then (m, ⟨-1, 0, m.val e⟩)
      else if c.op = 21 then ({ m with val := upd m.val e (canon c.v) }, An.no)
      else (m, An.no)

/-- One call more. -/
def Md.grow (m : Md) : Md := { m with len := m.len + 1 }
def Md.step (m : Md) (c : Cl) : Md × An := if 3 ≤ c.op ∧ c.op ≤ 14 then m.grow.change m.len c else m.grow.look m.len c

def usesList (op : Int) : Bool := decide (3 ≤ op) && decide (op ≤ 17)
def usesOther (op : Int) : Bool := decide (op = 12) || decide (op = 13)
def usesElem (op : Int) : Bool := (decide (7 ≤ op) && decide (op ≤ 11)) || decide (18 ≤ op)
def usesMark (op : Int) : Bool := decide (op = 5) || decide (op = 6) || decide (op = 9) || decide (op = 10)
def makes (op : Int) : Bool := decide (op = 2) || decide (op = 3) || decide (op = 4) || decide (op = 5) || decide (op = 6)

def Md.list (m : Md) (n : Int) : Bool := decide (0 ≤ n) && decide (n < m.len) && m.isL n.toNat
def Md.elem (m : Md) (n : Int) : Bool := decide (0 ≤ n) && decide (n < m.len) && (m.ret n.toNat).isSome
def Md.stale (m : Md) (c : Cl) (n : Int) : Bool :=
  match m.ret n.toNat with
  | none => false
  | some e =>
    match m.clr e with
    | none => false
    | some l => if c.op = 20 ∨ c.op = 21 then false else decide (c.op = 18) || decide (c.op = 19) || decide ((l : Int) = c.list)

/-- Is the call one of which something is said, where at most so many elements may be made? -/
def Md.permitted (most : Nat) (m : Md) (c : Cl) : Bool :=
  decide (0 ≤ c.op) && decide (c.op < 22) &&
  (!usesList c.op || m.list c.list) && (!usesOther c.op || m.list c.other) && (!usesElem c.op || m.elem c.elem) && (!usesMark c.op || m.elem c.mark) &&
  !(usesElem c.op && m.stale c c.elem) && !(usesMark c.op && m.stale c c.mark) &&
  (if usesOther c.op then decide (m.cnt + (m.seq c.other.toNat).length ≤ most) else !makes c.op || decide (m.cnt < most))

/-- Does the documentation leave open what the call returns? -/
def Md.opened (m : Md) (c : Cl) : Bool :=
  if c.op = 5 ∨ c.op = 6 then
    match m.ret c.mark.toNat with
    | none => true
    | some k => decide (k ∉ m.seq c.list.toNat)
  else if c.op = 18 ∨ c.op = 19 then
    match m.ret c.elem.toNat with
    | none => true
    | some e => (m.inn e).isNone
  else false

def okFrom (most : Nat) : Md → List Cl → Bool
  | _, [] => true
  | m, c :: r => m.permitted most c && okFrom most (m.step c).1 r
def runFrom : Md → List Cl → Md
  | m, [] => m
  | m, c :: r => runFrom (m.step c).1 r
def ansFrom : Md → List Cl → List An
  | _, [] => []
  | m, c :: r => (m.step c).2 :: ansFrom (m.step c).1 r
def openFrom : Md → List Cl → List Bool
  | _, [] => []
  | m, c :: r => m.grow.opened c :: openFrom (m.step c).1 r

theorem okFrom_append (most : Nat) (a b : List Cl) : ∀ m, okFrom most m (a ++ b) = (okFrom most m a && okFrom most (runFrom m a) b) := by
  induction a with
  | nil => intro m; simp [okFrom, runFrom]
  | cons c a ih => intro m; simp only [List.cons_append, okFrom, runFrom, ih, Bool.and_assoc]
theorem runFrom_append (a b : List Cl) : ∀ m, runFrom m (a ++ b) = runFrom (runFrom m a) b := by
  induction a with
  | nil => intro m; rfl
  | cons c a ih => intro m; simp only [List.cons_append, runFrom, ih]
theorem ansFrom_append (a b : List Cl) : ∀ m, ansFrom m (a ++ b) = ansFrom m a ++ ansFrom (runFrom m a) b := by
  induction a with
  | nil => intro m; rfl
  | cons c a ih => intro m; simp only [List.cons_append, ansFrom, runFrom, ih]
theorem openFrom_append (a b : List Cl) : ∀ m, openFrom m (a ++ b) = openFrom m a ++ openFrom (runFrom m a) b := by
  induction a with
  | nil => intro m; rfl
  | cons c a ih => intro m; simp only [List.cons_append, openFrom, runFrom, ih]
theorem ansFrom_length (a : List Cl) : ∀ m, (ansFrom m a).length = a.length := by
  induction a with
  | nil => intro m; rfl
  | cons c a ih => intro m; simp only [ansFrom, List.length_cons, ih]
theorem openFrom_length (a : List Cl) : ∀ m, (openFrom m a).length = a.length := by
  induction a with
  | nil => intro m; rfl
  | cons c a ih => intro m; simp only [openFrom, List.length_cons, ih]

/-- What holds of every state that a permitted script reaches. -/
structure WF (m : Md) : Prop where
  nodup : ∀ l, (m.seq l).Nodup
  mem : ∀ l e, e ∈ m.seq l ↔ m.inn e = some l
  out : ∀ e, m.cnt ≤ e → m.inn e = none ∧ m.clr e = none ∧ m.fst e = none
  isl : ∀ l, m.isL l = true → l < m.len
  emp : ∀ l, m.isL l = false → m.seq l = []
  rlt : ∀ i e, m.ret i = some e → i < m.len ∧ e < m.cnt
  fst1 : ∀ e i, m.fst e = some i → m.ret i = some e ∧ ∀ j, j < i → m.ret j ≠ some e
  fst0 : ∀ e, m.fst e = none → ∀ i, m.ret i ≠ some e
  clr : ∀ e l, m.clr e = some l → m.inn e = none ∧ m.isL l = true
  can : ∀ e, canon (m.val e) = m.val e

theorem WF.init : WF Md.init := by
  refine ⟨?_, ?_, ?_, ?_, ?_, ?_, ?_, ?_, ?_, ?_⟩ <;> simp [Md.init, canon, Vl.zero]

section
variable {m : Md}
theorem WF.lt (h : WF m) {l e : Nat} (he : e ∈ m.seq l) : e < m.cnt := by
  rcases Nat.lt_or_ge e m.cnt with q | q
  · exact q
  · have := (h.out e q).1; rw [(h.mem l e).1 he] at this; simp at this
theorem WF.isL_of_mem (h : WF m) {l e : Nat} (he : e ∈ m.seq l) : m.isL l = true := by
  cases q : m.isL l with
  | true => rfl
  | false => rw [h.emp l q] at he; simp at he
theorem WF.grow (h : WF m) : WF m.grow :=
  ⟨h.nodup, h.mem, h.out, fun l hl => Nat.lt_succ_of_lt (h.isl l hl), h.emp, fun i e q => ⟨Nat.lt_succ_of_lt (h.rlt i e q).1, (h.rlt i e q).2⟩, h.fst1, h.fst0, h.clr, h.can⟩

/-- Call i, which has returned nothing so far and is the latest, returns e. -/
theorem WF.give (h : WF m) {i e : Nat} (hi : i < m.len) (he : e < m.cnt) (hlate : ∀ j k, m.ret j = some k → j < i) : WF (m.give i e) := by
  refine ⟨h.nodup, h.mem, ?_, h.isl, h.emp, ?_, ?_, ?_, h.clr, h.can⟩
  · intro x hx
    have hne : ¬ x = e := by simp only [Md.give] at hx; omega
    simp only [Md.give]; rw [upd_other _ _ hne]; exact h.out x hx
  · intro j x hx
    simp only [Md.give] at hx ⊢
    by_cases q : j = i
    · subst q; rw [upd_same] at hx; simp at hx; subst hx; exact ⟨hi, he⟩
    · rw [upd_other _ _ q] at hx; exact h.rlt j x hx
  · intro x j hx
    simp only [Md.give] at hx ⊢
    by_cases q : x = e
    · subst q
      rw [upd_same] at hx
      simp at hx
      cases hf : m.fst x with
      | none =>
        rw [hf] at hx; simp at hx; subst hx
        exact ⟨upd_same _ _ _, fun k hk => by rw [upd_other _ _ (by omega)]; exact h.fst0 x hf k⟩
      | some k =>
        rw [hf] at hx; simp at hx; subst hx
        have h1 := h.fst1 x k hf
        have hki := hlate k x h1.1
        exact ⟨by rw [upd_other _ _ (by omega)]; exact h1.1, fun n hn => by rw [upd_other _ _ (by omega)]; exact h1.2 n hn⟩
    · rw [upd_other _ _ q] at hx
      have h1 := h.fst1 x j hx
      have hji := hlate j x h1.1
      exact ⟨by rw [upd_other _ _ (by omega)]; exact h1.1, fun n hn => by rw [upd_other _ _ (by omega)]; exact h1.2 n hn⟩
  · intro x hx j
    simp only [Md.give] at hx ⊢
    by_cases q : x = e
    · subst q; rw [upd_same] at hx; simp at hx
    · rw [upd_other _ _ q] at hx
      by_cases r : j = i
      · subst r; rw [upd_same]; simp; exact fun s => q s.symm
      · rw [upd_other _ _ r]; exact h.fst0 x hx j

/-- A list's elements in another order. -/
theorem WF.perm (h : WF m) {l : Nat} {s : List Nat} (hl : m.isL l = true) (hs : s.Perm (m.seq l)) : WF (m.setSeq l s) := by
  refine ⟨?_, ?_, h.out, h.isl, ?_, h.rlt, h.fst1, h.fst0, h.clr, h.can⟩
  · intro k
    simp only [Md.setSeq]
    by_cases q : k = l
    · subst q; rw [upd_same]; exact hs.nodup_iff.2 (h.nodup k)
    · rw [upd_other _ _ q]; exact h.nodup k
  · intro k e
    simp only [Md.setSeq]
    by_cases q : k = l
    · subst q; rw [upd_same, hs.mem_iff]; exact h.mem k e
    · rw [upd_other _ _ q]; exact h.mem k e
  · intro k hk
    simp only [Md.setSeq] at hk ⊢
    have q : ¬ k = l := fun q => by subst q; rw [hl] at hk; simp at hk
    rw [upd_other _ _ q]; exact h.emp k hk

theorem WF.make_none (h : WF m) (v : Vl) : WF (m.make v none) := by
  refine ⟨h.nodup, ?_, ?_, h.isl, h.emp, ?_, h.fst1, h.fst0, ?_, ?_⟩
  · intro l e
    simp only [Md.make]
    by_cases q : e = m.cnt
    · subst q; rw [upd_same]; simp; exact fun r => Nat.lt_irrefl _ (h.lt r)
    · rw [upd_other _ _ q]; exact h.mem l e
  · intro e he
    simp only [Md.make] at he ⊢
    rw [upd_other _ _ (by omega)]; exact h.out e (by omega)
  · intro i e hi
    have := h.rlt i e hi
    simp only [Md.make]; omega
  · intro e l he
    simp only [Md.make] at he ⊢
    have q : ¬ e = m.cnt := fun q => by have := (h.out e (by omega)).2.1; rw [this] at he; simp at he
    rw [upd_other _ _ q]; exact h.clr e l he
  · intro e
    simp only [Md.make]
    by_cases q : e = m.cnt
    · subst q; rw [upd_same]; exact canon_canon v
    · rw [upd_other _ _ q]; exact h.can e

theorem WF.make_in (h : WF m) (v : Vl) {l : Nat} {u z : List Nat} (hl : m.isL l = true) (hs : m.seq l = u ++ z) : WF ((m.make v (some l)).setSeq l (u ++ m.cnt :: z)) := by
  have hnot : m.cnt ∉ u ++ z := fun q => Nat.lt_irrefl _ (h.lt (l := l) (hs ▸ q))
  have hnd := h.nodup l
  rw [hs] at hnd
  refine ⟨?_, ?_, ?_, h.isl, ?_, ?_, h.fst1, h.fst0, ?_, ?_⟩
  · intro k
    simp only [Md.setSeq, Md.make]
    by_cases q : k = l
    · subst q; rw [upd_same]; exact List.perm_middle.nodup_iff.2 (List.nodup_cons.2 ⟨hnot, hnd⟩)
    · rw [upd_other _ _ q]; exact h.nodup k
  · intro k e
    simp only [Md.setSeq, Md.make]
    by_cases q : e = m.cnt
    · subst q
      rw [upd_same]
      by_cases r : k = l
      · subst r; rw [upd_same]; simp
      · rw [upd_other _ _ r]; simp only [Option.some.injEq]
        exact ⟨fun s => absurd (h.lt s) (Nat.lt_irrefl _), fun s => absurd s.symm r⟩
    · rw [upd_other _ _ q]
      by_cases r : k = l
      · subst r; rw [upd_same, ← h.mem k e, hs]; simp [q]
      · rw [upd_other _ _ r]; exact h.mem k e
  · intro e he
    simp only [Md.setSeq, Md.make] at he ⊢
    rw [upd_other _ _ (by omega)]; exact h.out e (by omega)
  · intro k hk
    simp only [Md.setSeq, Md.make] at hk ⊢
    have q : ¬ k = l := fun q => by subst q; rw [hl] at hk; simp at hk
    rw [upd_other _ _ q]; exact h.emp k hk
  · intro i e hi
    have := h.rlt i e hi
    simp only [Md.setSeq, Md.make]; omega
  · intro e k he
    simp only [Md.setSeq, Md.make] at he ⊢
    have q : ¬ e = m.cnt := fun q => by have := (h.out e (by omega)).2.1; rw [this] at he; simp at he
    rw [upd_other _ _ q]; exact h.clr e k he
  · intro e
    simp only [Md.setSeq, Md.make]
    by_cases q : e = m.cnt
    · subst q; rw [upd_same]; exact canon_canon v
    · rw [upd_other _ _ q]; exact h.can e

theorem WF.drop (h : WF m) {l e : Nat} (he : e ∈ m.seq l) : WF (m.drop l e) := by
  have hl := h.isL_of_mem he
  refine ⟨?_, ?_, ?_, h.isl, ?_, h.rlt, h.fst1, h.fst0, ?_, h.can⟩
  · intro k
    simp only [Md.drop, Md.take, Md.setSeq]
    by_cases q : k = l
    · subst q; rw [upd_same]; exact (h.nodup k).filter _
    · rw [upd_other _ _ q]; exact h.nodup k
  · intro k x
    simp only [Md.drop, Md.take, Md.setSeq]
    by_cases q : x = e
    · subst q
      rw [upd_same]; simp only [reduceCtorEq, iff_false]
      by_cases r : k = l
      · subst r; rw [upd_same]; simp
      · rw [upd_other _ _ r]; intro s
        have := (h.mem k x).1 s; rw [(h.mem l x).1 he] at this; simp at this; exact r this.symm
    · rw [upd_other _ _ q]
      by_cases r : k = l
      · subst r; rw [upd_same, ← h.mem k x]; simp [q]
      · rw [upd_other _ _ r]; exact h.mem k x
  · intro x hx
    simp only [Md.drop, Md.take, Md.setSeq] at hx ⊢
    have q : ¬ x = e := fun q => by subst q; have := h.lt he; omega
    rw [upd_other _ _ q]; exact h.out x hx
  · intro k hk
    simp only [Md.drop, Md.take, Md.setSeq] at hk ⊢
    have q : ¬ k = l := fun q => by subst q; rw [hl] at hk; simp at hk
    rw [upd_other _ _ q]; exact h.emp k hk
  · intro x k hx
    simp only [Md.drop, Md.take, Md.setSeq] at hx ⊢
    have := h.clr x k hx
    refine ⟨?_, this.2⟩
    by_cases q : x = e
    · subst q; exact upd_same _ _ _
    · rw [upd_other _ _ q]; exact this.1

theorem WF.clear (h : WF m) {l : Nat} (hl : m.isL l = true) : WF (m.clear l) := by
  refine ⟨?_, ?_, ?_, h.isl, ?_, h.rlt, h.fst1, h.fst0, ?_, h.can⟩
  · intro k
    simp only [Md.clear]
    by_cases q : k = l
    · subst q; rw [upd_same]; simp
    · rw [upd_other _ _ q]; exact h.nodup k
  · intro k x
    simp only [Md.clear]
    by_cases q : x ∈ m.seq l
    · rw [if_pos q]; simp only [reduceCtorEq, iff_false]
      by_cases r : k = l
      · subst r; rw [upd_same]; simp
      · rw [upd_other _ _ r]; intro s
        have := (h.mem k x).1 s; rw [(h.mem l x).1 q] at this; simp at this; exact r this.symm
    · rw [if_neg q]
      by_cases r : k = l
      · subst r; rw [upd_same, ← h.mem k x]; simp [q]
      · rw [upd_other _ _ r]; exact h.mem k x
  · intro x hx
    simp only [Md.clear] at hx ⊢
    have q : x ∉ m.seq l := fun q => by have := h.lt q; omega
    rw [if_neg q, if_neg q]; exact h.out x hx
  · intro k hk
    simp only [Md.clear] at hk ⊢
    have q : ¬ k = l := fun q => by subst q; rw [hl] at hk; simp at hk
    rw [upd_other _ _ q]; exact h.emp k hk
  · intro x k hx
    simp only [Md.clear] at hx ⊢
    by_cases q : x ∈ m.seq l
    · rw [if_pos q] at hx ⊢; simp at hx; subst hx; exact ⟨rfl, hl⟩
    · rw [if_neg q] at hx ⊢; exact h.clr x k hx

theorem WF.copy (h : WF m) {l : Nat} (hl : m.isL l = true) (xs : List Nat) (front : Bool) :
    WF ((m.copy l xs).setSeq l (if front then List.range' m.cnt xs.length ++ m.seq l else m.seq l ++ List.range' m.cnt xs.length)) := by
  have hr : ∀ e, e ∈ List.range' m.cnt xs.length ↔ (m.cnt ≤ e ∧ e < m.cnt + xs.length) := fun e => by rw [List.mem_range'_1]
  have hmem : ∀ e, e ∈ (if front then List.range' m.cnt xs.length ++ m.seq l else m.seq l ++ List.range' m.cnt xs.length) ↔ (m.cnt ≤ e ∧ e < m.cnt + xs.length) ∨ e ∈ m.seq l := by
    intro e
    cases front
    · simp only [Bool.false_eq_true, if_false, List.mem_append, hr]; exact Or.comm
    · simp only [if_true, List.mem_append, hr]
  refine ⟨?_, ?_, ?_, h.isl, ?_, ?_, h.fst1, h.fst0, ?_, ?_⟩
  · intro k
    simp only [Md.setSeq, Md.copy]
    by_cases q : k = l
    · subst q; rw [upd_same]
      have hd : ∀ a ∈ m.seq k, ∀ b ∈ List.range' m.cnt xs.length, a ≠ b := fun a ha b hb => by
        have := h.lt ha; have := (hr b).1 hb; omega
      cases front
      · simp only [Bool.false_eq_true, if_false]; exact List.nodup_append.2 ⟨h.nodup k, List.nodup_range', hd⟩
      · simp only [if_true]; exact List.nodup_append.2 ⟨List.nodup_range', h.nodup k, fun a ha b hb => (hd b hb a ha).symm⟩
    · rw [upd_other _ _ q]; exact h.nodup k
  · intro k e
    simp only [Md.setSeq, Md.copy]
    by_cases q : m.cnt ≤ e ∧ e < m.cnt + xs.length
    · rw [if_pos q]
      by_cases r : k = l
      · subst r; rw [upd_same, hmem]; simp [q]
      · rw [upd_other _ _ r]; simp only [Option.some.injEq]
        exact ⟨fun s => by have := h.lt s; omega, fun s => absurd s.symm r⟩
    · rw [if_neg q]
      by_cases r : k = l
      · subst r; rw [upd_same, hmem, ← h.mem k e]; simp only [q, false_or]
      · rw [upd_other _ _ r]; exact h.mem k e
  · intro e he
    simp only [Md.setSeq, Md.copy] at he ⊢
    rw [if_neg (by omega)]; exact h.out e (by omega)
  · intro k hk
    simp only [Md.setSeq, Md.copy] at hk ⊢
    have q : ¬ k = l := fun q => by subst q; rw [hl] at hk; simp at hk
    rw [upd_other _ _ q]; exact h.emp k hk
  · intro i e hi
    have := h.rlt i e hi
    simp only [Md.setSeq, Md.copy]; omega
  · intro e k he
    simp only [Md.setSeq, Md.copy] at he ⊢
    have q : ¬ (m.cnt ≤ e ∧ e < m.cnt + xs.length) := fun q => by have := (h.out e (by omega)).2.1; rw [this] at he; simp at he
    rw [if_neg q]; exact h.clr e k he
  · intro e
    simp only [Md.setSeq, Md.copy]
    split
    · exact h.can _
    · exact h.can _
end
structure Permitted (most : Nat) (m : Md) (c : Cl) : Prop where
  lo : 0 ≤ c.op
  hi : c.op < 22
  list : 3 ≤ c.op → c.op ≤ 17 → 0 ≤ c.list ∧ c.list < m.len ∧ m.isL c.list.toNat = true
  other : c.op = 12 ∨ c.op = 13 → 0 ≤ c.other ∧ c.other < m.len ∧ m.isL c.other.toNat = true
  elem : (7 ≤ c.op ∧ c.op ≤ 11) ∨ 18 ≤ c.op → 0 ≤ c.elem ∧ c.elem < m.len ∧ ∃ e, m.ret c.elem.toNat = some e
  mark : c.op = 5 ∨ c.op = 6 ∨ c.op = 9 ∨ c.op = 10 → 0 ≤ c.mark ∧ c.mark < m.len ∧ ∃ e, m.ret c.mark.toNat = some e
  staleE : (7 ≤ c.op ∧ c.op ≤ 11) ∨ 18 ≤ c.op → m.stale c c.elem = false
  staleM : c.op = 5 ∨ c.op = 6 ∨ c.op = 9 ∨ c.op = 10 → m.stale c c.mark = false
  room : c.op = 12 ∨ c.op = 13 → m.cnt + (m.seq c.other.toNat).length ≤ most
  space : c.op = 2 ∨ c.op = 3 ∨ c.op = 4 ∨ c.op = 5 ∨ c.op = 6 → m.cnt < most

theorem list_iff (m : Md) (n : Int) : m.list n = true ↔ 0 ≤ n ∧ n < m.len ∧ m.isL n.toNat = true := by simp [Md.list, and_assoc]
theorem elem_iff (m : Md) (n : Int) : m.elem n = true ↔ 0 ≤ n ∧ n < m.len ∧ ∃ e, m.ret n.toNat = some e := by simp [Md.elem, and_assoc, Option.isSome_iff_exists]
theorem usesList_iff (op : Int) : usesList op = true ↔ 3 ≤ op ∧ op ≤ 17 := by simp [usesList]
theorem usesOther_iff (op : Int) : usesOther op = true ↔ op = 12 ∨ op = 13 := by simp [usesOther]
theorem usesElem_iff (op : Int) : usesElem op = true ↔ (7 ≤ op ∧ op ≤ 11) ∨ 18 ≤ op := by simp [usesElem]
theorem usesMark_iff (op : Int) : usesMark op = true ↔ op = 5 ∨ op = 6 ∨ op = 9 ∨ op = 10 := by simp [usesMark, or_assoc]
theorem makes_iff (op : Int) : makes op = true ↔ op = 2 ∨ op = 3 ∨ op = 4 ∨ op = 5 ∨ op = 6 := by simp [makes, or_assoc]
theorem bimp {a b : Bool} : (!a || b) = true ↔ (a = true → b = true) := by cases a <;> cases b <;> simp
theorem bnand {a b : Bool} : (!(a && b)) = true ↔ (a = true → b = false) := by cases a <;> cases b <;> simp

theorem permitted_iff (most : Nat) (m : Md) (c : Cl) : m.permitted most c = true ↔ Permitted most m c := by
  unfold Md.permitted
  simp only [Bool.and_eq_true, bimp, bnand, decide_eq_true_eq, list_iff, elem_iff, usesList_iff, usesElem_iff, usesMark_iff, usesOther_iff]
  constructor
  · rintro ⟨⟨⟨⟨⟨⟨⟨⟨h1, h2⟩, h3⟩, h4⟩, h5⟩, h6⟩, h7⟩, h8⟩, h9⟩
    refine ⟨h1, h2, fun a b => h3 ⟨a, b⟩, h4, h5, h6, h7, h8, fun q => ?_, fun q => ?_⟩
    · rw [if_pos q] at h9; simpa using h9
    · rw [if_neg (by omega)] at h9
      rw [bimp, makes_iff] at h9; simpa using h9 q
  · intro h
    refine ⟨⟨⟨⟨⟨⟨⟨⟨h.lo, h.hi⟩, fun q => h.list q.1 q.2⟩, h.other⟩, h.elem⟩, h.mark⟩, h.staleE⟩, h.staleM⟩, ?_⟩
    by_cases q : c.op = 12 ∨ c.op = 13
    · rw [if_pos q]; simpa using h.room q
    · rw [if_neg q, bimp, makes_iff]; intro r; simpa using h.space r

theorem stale_spec {m : Md} {c : Cl} {n : Int} {e l : Nat} (h : m.stale c n = false) (hr : m.ret n.toNat = some e) (hc : m.clr e = some l) (h20 : c.op ≠ 20) (h21 : c.op ≠ 21) : c.op ≠ 18 ∧ c.op ≠ 19 ∧ (l : Int) ≠ c.list := by
  unfold Md.stale at h
  rw [hr] at h
  simp only [hc] at h
  rw [if_neg (by omega)] at h
  simpa [and_assoc] using h

theorem move_perm {s : List Nat} {e : Nat} (h : s.Nodup) (he : e ∈ s) (k : Nat) : ((s.filter fun x => decide (x ≠ e)).take k ++ e :: (s.filter fun x => decide (x ≠ e)).drop k).Perm s := by
  refine List.perm_middle.trans ?_
  rw [List.take_append_drop]
  obtain ⟨u, z, rfl⟩ := List.append_of_mem he
  have hnd := List.nodup_append.1 h
  have hu : u.filter (fun x => decide (x ≠ e)) = u := List.filter_eq_self.2 (fun x hx => by simp; exact fun q => hnd.2.2 x hx e (by simp) q)
  have hz : z.filter (fun x => decide (x ≠ e)) = z := List.filter_eq_self.2 (fun x hx => by simp; exact fun q => (List.nodup_cons.1 hnd.2.1).1 (q ▸ hx))
  rw [List.filter_append, List.filter_cons_of_neg (by simp), hu, hz]
  exact List.perm_middle.symm

theorem setSeq_setSeq (m : Md) (l : Nat) (s t : List Nat) : (m.setSeq l s).setSeq l t = m.setSeq l t := by
  simp only [Md.setSeq, Md.mk.injEq, true_and, and_true]
  funext k; simp only [upd]; split <;> rfl
theorem setSeq_self (m : Md) (l : Nat) : m.setSeq l (m.seq l) = m := by
  simp only [Md.setSeq, upd_self]
theorem take_put (m : Md) (l e k : Nat) : (m.take l e).put l k e = m.setSeq l (((m.seq l).filter fun x => decide (x ≠ e)).take k ++ e :: ((m.seq l).filter fun x => decide (x ≠ e)).drop k) := by
  unfold Md.take Md.put
  rw [setSeq_setSeq]
  simp only [Md.setSeq, upd_same]

section
variable {m : Md} {c : Cl} {most : Nat}
theorem WF.moveTo (h : WF m) {l e : Nat} (he : e ∈ m.seq l) : WF (m.moveTo c l e) := by
  have hl := h.isL_of_mem he
  unfold Md.moveTo
  split
  · rw [take_put]; exact h.perm hl (move_perm (h.nodup l) he _)
  · split
    · rw [take_put]; exact h.perm hl (move_perm (h.nodup l) he _)
    · split
      · exact h
      · split
        · exact h
        · rw [take_put]; exact h.perm hl (move_perm (h.nodup l) he _)
theorem WF.move (h : WF m) : WF (m.move c) := by
  unfold Md.move
  split
  · exact h
  · split
    · rename_i he; exact h.moveTo he
    · exact h

theorem late (h : WF m) : ∀ j k, m.grow.ret j = some k → j < m.len := fun j k q => (h.rlt j k q).1

theorem put_mid (h : WF m) (v : Vl) {l : Nat} (hl : m.isL l = true) (k : Nat) : WF ((m.make v (some l)).put l k m.cnt) := by
  unfold Md.put
  exact h.make_in v hl (u := (m.seq l).take k) (z := (m.seq l).drop k) (List.take_append_drop _ _).symm

theorem WF.answer (h : WF m) {i : Nat} {o : Option Nat} (hi : i < m.len) (ho : ∀ e, o = some e → e < m.cnt) (hlate : ∀ j k, m.ret j = some k → j < i) : WF (m.answer i o).1 := by
  cases o with
  | none => exact h
  | some e => exact h.give hi (ho e rfl) hlate

theorem WF.set (h : WF m) (e : Nat) (v : Vl) : WF { m with val := upd m.val e (canon v) } :=
  ⟨h.nodup, h.mem, h.out, h.isl, h.emp, h.rlt, h.fst1, h.fst0, h.clr, fun x => by
    by_cases q : x = e
    · subst q; simp only [upd_same]; exact canon_canon v
    · simp only [upd_other _ _ q]; exact h.can x⟩

theorem WF.newL (h : WF m) : WF { m.grow with isL := upd m.isL m.len true } := by
  refine ⟨h.nodup, h.mem, h.out, ?_, ?_, h.grow.rlt, h.fst1, h.fst0, ?_, h.can⟩
  · intro l hl
    by_cases q : l = m.len
    · subst q; exact Nat.lt_succ_self _
    · simp only [upd_other _ _ q] at hl; exact Nat.lt_succ_of_lt (h.isl l hl)
  · intro l hl
    by_cases q : l = m.len
    · subst q; simp only [upd_same] at hl; simp at hl
    · simp only [upd_other _ _ q] at hl; exact h.emp l hl
  · intro e l he
    refine ⟨(h.clr e l he).1, ?_⟩
    by_cases q : l = m.len
    · subst q; exact upd_same _ _ _
    · simp only [upd_other _ _ q]; exact (h.clr e l he).2

theorem next_lt (h : WF m) {e x : Nat} (hn : m.next e = some x) : x < m.cnt := by
  unfold Md.next at hn
  split at hn
  · simp at hn
  · exact h.lt (List.mem_of_getElem? hn)
theorem prev_lt (h : WF m) {e x : Nat} (hn : m.prev e = some x) : x < m.cnt := by
  unfold Md.prev at hn
  split at hn
  · simp at hn
  · split at hn
    · simp at hn
    · exact h.lt (List.mem_of_getElem? hn)

theorem WF.step (h : WF m) (hp : Permitted most m c) : WF (m.step c).1 := by
  have hg := h.grow
  have hlen : m.len < m.grow.len := Nat.lt_succ_self _
  unfold Md.step
  split
  · rename_i hop
    have hL := (hp.list hop.1 (by omega)).2.2
    have hins : ∀ b, WF (m.grow.insert m.len c b).1 := by
      intro b
      unfold Md.insert
      split
      · exact hg
      · split
        · refine WF.answer (put_mid hg c.v hL _) hlen (fun e q => ?_) (late h)
          simp at q; subst q; exact Nat.lt_succ_self _
        · exact hg
    unfold Md.change
    split
    · refine WF.answer (put_mid hg c.v hL _) hlen (fun e q => ?_) (late h)
      simp at q; subst q; exact Nat.lt_succ_self _
    split
    · refine WF.answer (put_mid hg c.v hL _) hlen (fun e q => ?_) (late h)
      simp at q; subst q; exact Nat.lt_succ_self _
    split
    · exact hins 0
    split
    · exact hins 1
    split
    · exact hg.move
    split
    · unfold Md.remove
      split
      · exact hg
      · dsimp only
        split
        · rename_i he; exact hg.drop he
        · exact hg
    split
    · unfold Md.copies
      have := hg.copy hL (m.grow.seq c.other.toNat) (decide (c.op ≠ 12))
      by_cases q : c.op = 12
      · simpa [q] using this
      · simpa [q] using this
    split
    · exact hg.clear hL
    · exact hg
  · unfold Md.look
    split
    · exact h.newL
    split
    · refine WF.answer (hg.make_none c.v) hlen (fun e q => ?_) (late h)
      simp at q; subst q; exact Nat.lt_succ_self _
    split
    · exact hg.answer hlen (fun e q => hg.lt (List.mem_of_head? q)) (late h)
    split
    · exact hg.answer hlen (fun e q => hg.lt (List.mem_of_getLast? q)) (late h)
    split
    · exact hg
    split
    · exact hg
    · split
      · exact hg.answer hlen (fun e q => next_lt hg q) (late h)
      split
      · exact hg.answer hlen (fun e q => prev_lt hg q) (late h)
      split
      · exact hg
      split
      · exact hg.set _ _
      · exact hg

theorem WF.run {most : Nat} : ∀ (cs : List Cl) {m : Md}, WF m → okFrom most m cs = true → WF (runFrom m cs)
  | [], _, h, _ => h
  | c :: cs, m, h, ho => by
    simp only [okFrom, Bool.and_eq_true] at ho
    exact WF.run cs (h.step ((permitted_iff _ _ _).1 ho.1)) ho.2
end
end Bead
end Go.Proofs.Ytidnmanljdadaaa
