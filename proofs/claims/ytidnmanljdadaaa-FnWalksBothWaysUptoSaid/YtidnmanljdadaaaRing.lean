/- Plain lemmas on rings of nodes (two functions: the next and the previous node), proved for every list of nodes. No program is in sight here. -/
import Derived.WalkKit
set_option linter.all false
namespace Go.Proofs.Ytidnmanljdadaaa
namespace Bead

def upd {α : Type} (f : Nat → α) (i : Nat) (x : α) : Nat → α := fun j => if j = i then x else f j
theorem upd_same {α : Type} (f : Nat → α) (i : Nat) (x : α) : upd f i x i = x := by simp [upd]
theorem upd_other {α : Type} (f : Nat → α) {i j : Nat} (x : α) (h : ¬ j = i) : upd f i x j = f j := by simp [upd, h]
theorem upd_self {α : Type} (f : Nat → α) (i : Nat) : upd f i (f i) = f := by funext j; unfold upd; split <;> simp_all

def linked (nx pv : Nat → Option Nat) : List Nat → Prop
  | a :: b :: r => nx a = some b ∧ pv b = some a ∧ linked nx pv (b :: r)
  | _ => True

section
variable {nx pv nx' pv' : Nat → Option Nat}

theorem linked_cons2 (a b : Nat) (r : List Nat) : linked nx pv (a :: b :: r) ↔ nx a = some b ∧ pv b = some a ∧ linked nx pv (b :: r) := Iff.rfl

theorem linked_append (xs : List Nat) (a : Nat) (ys : List Nat) : linked nx pv (xs ++ a :: ys) ↔ linked nx pv (xs ++ [a]) ∧ linked nx pv (a :: ys) := by
  induction xs with
  | nil => simp [linked]
  | cons x xs ih =>
    cases xs with
    | nil => simp [linked, and_assoc]
    | cons y r =>
      simp only [List.cons_append] at ih ⊢
      rw [linked_cons2, linked_cons2, ih]
      simp [and_assoc]

theorem linked_congr : ∀ (l : List Nat), (∀ x ∈ l.dropLast, nx' x = nx x) → (∀ y ∈ l.tail, pv' y = pv y) → linked nx pv l → linked nx' pv' l
  | [], _, _, _ => trivial
  | [_], _, _, _ => trivial
  | a :: b :: r, h1, h2, h => by
    obtain ⟨ha, hb, hr⟩ := h
    refine ⟨(h1 a (by simp)).trans ha, (h2 b (by simp)).trans hb, linked_congr (b :: r) (fun x hx => h1 x ?_) (fun y hy => h2 y ?_) hr⟩
    · simp only [List.dropLast_cons_of_ne_nil (show (b :: r) ≠ [] by simp)]
      exact List.mem_cons_of_mem _ hx
    · simp only [List.tail_cons] at hy ⊢
      exact List.mem_cons_of_mem _ hy

theorem linked_insert {xs ys : List Nat} {a n e : Nat} (h : linked nx pv (xs ++ a :: n :: ys)) (h1 : a ∉ xs) (h2 : a ∉ (n :: ys).dropLast) (h3 : n ∉ (xs ++ [a]).tail) (h4 : n ∉ ys)
    (h5 : e ∉ xs ++ [a]) (h6 : e ∉ n :: ys) : linked (upd (upd nx e (some n)) a (some e)) (upd (upd pv e (some a)) n (some e)) (xs ++ a :: e :: n :: ys) := by
  rw [linked_append] at h
  obtain ⟨hx, ha, hn, hy⟩ := h
  rw [linked_append]
  have hea : ¬ e = a := by intro q; apply h5; simp [q]
  have hen : ¬ e = n := by intro q; apply h6; simp [q]
  refine ⟨linked_congr _ ?_ ?_ hx, ?_, ?_, ?_, ?_, linked_congr _ ?_ ?_ hy⟩
  · intro x hx
    simp only [List.dropLast_concat] at hx
    have q1 : ¬ x = a := fun q => h1 (q ▸ hx)
    have q2 : ¬ x = e := fun q => h5 (by rw [← q]; simp [hx])
    simp [upd, q1, q2]
  · intro y hy
    have q1 : ¬ y = n := fun q => h3 (q ▸ hy)
    have q2 : ¬ y = e := fun q => h5 (by rw [← q]; exact List.mem_of_mem_tail hy)
    simp [upd, q1, q2]
  · simp [upd]
  · simp [upd, hen]
  · simp [upd, hea]
  · simp [upd]
  · intro x hx
    have q1 : ¬ x = a := fun q => h2 (q ▸ hx)
    have q2 : ¬ x = e := fun q => h6 (by rw [← q]; exact (List.dropLast_sublist _).subset hx)
    simp [upd, q1, q2]
  · intro y hy
    simp only [List.tail_cons] at hy
    have q1 : ¬ y = n := fun q => h4 (q ▸ hy)
    have q2 : ¬ y = e := fun q => h6 (by rw [← q]; simp [hy])
    simp [upd, q1, q2]

theorem linked_remove {xs ys : List Nat} {p n e : Nat} (h : linked nx pv (xs ++ p :: e :: n :: ys)) (h1 : p ∉ xs) (h2 : p ∉ (n :: ys).dropLast) (h3 : n ∉ (xs ++ [p]).tail) (h4 : n ∉ ys) :
    linked (upd nx p (some n)) (upd pv n (some p)) (xs ++ p :: n :: ys) := by
  rw [linked_append] at h
  obtain ⟨hx, hp, he, hen, hne, hy⟩ := h
  rw [linked_append]
  refine ⟨linked_congr _ ?_ ?_ hx, ?_, ?_, linked_congr _ ?_ ?_ hy⟩
  · intro x hx
    simp only [List.dropLast_concat] at hx
    exact upd_other _ _ (fun q => h1 (q ▸ hx))
  · intro y hy
    exact upd_other _ _ (fun q => h3 (q ▸ hy))
  · simp [upd]
  · simp [upd]
  · intro x hx
    exact upd_other _ _ (fun q => h2 (q ▸ hx))
  · intro y hy
    simp only [List.tail_cons] at hy
    exact upd_other _ _ (fun q => h4 (q ▸ hy))

/-- The node behind: the first of the rest, or the root. -/
def hd (z : List Nat) (b : Nat) : Nat := z.head?.getD b
/-- The node ahead: the last one ahead, or the root. -/
def lt (b : Nat) (u : List Nat) : Nat := u.getLast?.getD b

theorem hd_cons (b : Nat) (z : List Nat) : ∃ ys, z ++ [b] = hd z b :: ys ∧ (hd z b :: ys).dropLast = z ∧ (hd z b = b ∨ hd z b ∈ z) := by
  cases z with
  | nil => exact ⟨[], by simp [hd]⟩
  | cons x z => exact ⟨z ++ [b], by simp [hd, List.dropLast_cons_of_ne_nil]⟩

theorem lt_snoc (b : Nat) (u : List Nat) : ∃ xs, b :: u = xs ++ [lt b u] ∧ (xs ++ [lt b u]).tail = u ∧ (lt b u = b ∨ lt b u ∈ u) := by
  rcases List.eq_nil_or_concat u with rfl | ⟨v, x, rfl⟩
  · exact ⟨[], by simp [lt]⟩
  · refine ⟨b :: v, by simp [lt], by simp [lt], .inr (by simp [lt])⟩

/-- A ring: the root, the nodes in their order, the root again. -/
def ring (nx pv : Nat → Option Nat) (b : Nat) (s : List Nat) : Prop := linked nx pv (b :: s ++ [b])

theorem ring_insert {b e : Nat} {u z : List Nat} (h : ring nx pv b (u ++ z)) (hnd : (b :: (u ++ z)).Nodup) (he : e ∉ b :: (u ++ z)) :
    ring (upd (upd nx e (some (hd z b))) (lt b u) (some e)) (upd (upd pv e (some (lt b u))) (hd z b) (some e)) b (u ++ e :: z) := by
  obtain ⟨xs, hx, hxt, hxm⟩ := lt_snoc b u
  obtain ⟨ys, hy, hyd, hym⟩ := hd_cons b z
  unfold ring at h ⊢
  have e1 : b :: (u ++ z) ++ [b] = xs ++ lt b u :: hd z b :: ys := by
    have : b :: (u ++ z) ++ [b] = (b :: u) ++ (z ++ [b]) := by simp
    rw [this, hx, hy]; simp
  have e2 : b :: (u ++ e :: z) ++ [b] = xs ++ lt b u :: e :: hd z b :: ys := by
    have : b :: (u ++ e :: z) ++ [b] = (b :: u) ++ e :: (z ++ [b]) := by simp
    rw [this, hx, hy]; simp
  rw [e1] at h
  rw [e2]
  have hnd' : ((xs ++ [lt b u]) ++ z).Nodup := by rw [← hx]; simpa using hnd
  have hnd2 := List.nodup_append.1 hnd'
  have hbu : b ∉ u ++ z := (List.nodup_cons.1 hnd).1
  refine linked_insert h ?_ ?_ ?_ ?_ ?_ ?_
  · intro q
    have := (List.nodup_append.1 hnd2.1).2.2 _ q (lt b u) (by simp)
    exact this rfl
  · rw [hyd]; intro q
    exact hnd2.2.2 _ (by simp) _ q rfl
  · rw [hxt]; intro q
    rcases hym with r | r
    · rw [r] at q; exact hbu (by simp [q])
    · have := (List.nodup_append.1 (List.nodup_cons.1 hnd).2).2.2 _ q _ r
      exact this rfl
  · intro q
    rcases hym with r | r
    · have hz : z = [] := by
        cases z with
        | nil => rfl
        | cons c z => simp [hd] at r; subst r; exact absurd (by simp) hbu
      subst hz; simp [hd] at hy; subst hy; simp at q
    · cases z with
      | nil => simp at r
      | cons c z =>
        simp [hd] at hy q
        subst hy
        have hcz : c ∉ z := (List.nodup_cons.1 (List.nodup_append.1 (List.nodup_cons.1 hnd).2).2.1).1
        rcases List.mem_append.1 q with q | q
        · exact hcz q
        · simp at q; subst q; exact hbu (by simp)
  · rw [← hx]; intro q; apply he
    rcases List.mem_cons.1 q with q | q
    · simp [q]
    · simp [q]
  · rw [← hy]; intro q; apply he
    rcases List.mem_append.1 q with q | q
    · simp [q]
    · simp at q; simp [q]

theorem ring_remove {b e : Nat} {u z : List Nat} (h : ring nx pv b (u ++ e :: z)) (hnd : (b :: (u ++ e :: z)).Nodup) :
    ring (upd nx (lt b u) (some (hd z b))) (upd pv (hd z b) (some (lt b u))) b (u ++ z) := by
  obtain ⟨xs, hx, hxt, hxm⟩ := lt_snoc b u
  obtain ⟨ys, hy, hyd, hym⟩ := hd_cons b z
  unfold ring at h ⊢
  have e1 : b :: (u ++ z) ++ [b] = xs ++ lt b u :: hd z b :: ys := by
    have : b :: (u ++ z) ++ [b] = (b :: u) ++ (z ++ [b]) := by simp
    rw [this, hx, hy]; simp
  have e2 : b :: (u ++ e :: z) ++ [b] = xs ++ lt b u :: e :: hd z b :: ys := by
    have : b :: (u ++ e :: z) ++ [b] = (b :: u) ++ e :: (z ++ [b]) := by simp
    rw [this, hx, hy]; simp
  rw [e2] at h
  rw [e1]
  have hnd0 : (b :: (u ++ z)).Nodup := by
    refine hnd.sublist ?_
    exact List.Sublist.cons_cons _ (List.Sublist.append_left (List.sublist_cons_self _ _) _)
  have hnd' : ((xs ++ [lt b u]) ++ z).Nodup := by rw [← hx]; simpa using hnd0
  have hnd2 := List.nodup_append.1 hnd'
  have hbu : b ∉ u ++ z := (List.nodup_cons.1 hnd0).1
  refine linked_remove h ?_ ?_ ?_ ?_
  · intro q
    have := (List.nodup_append.1 hnd2.1).2.2 _ q (lt b u) (by simp)
    exact this rfl
  · rw [hyd]; intro q
    exact hnd2.2.2 _ (by simp) _ q rfl
  · rw [hxt]; intro q
    rcases hym with r | r
    · rw [r] at q; exact hbu (by simp [q])
    · have := (List.nodup_append.1 (List.nodup_cons.1 hnd0).2).2.2 _ q _ r
      exact this rfl
  · intro q
    rcases hym with r | r
    · have hz : z = [] := by
        cases z with
        | nil => rfl
        | cons c z => simp [hd] at r; subst r; exact absurd (by simp) hbu
      subst hz; simp [hd] at hy; subst hy; simp at q
    · cases z with
      | nil => simp at r
      | cons c z =>
        simp [hd] at hy q
        subst hy
        have hcz : c ∉ z := (List.nodup_cons.1 (List.nodup_append.1 (List.nodup_cons.1 hnd0).2).2.1).1
        rcases List.mem_append.1 q with q | q
        · exact hcz q
        · simp at q; subst q; exact hbu (by simp)

/-- What a ring says of the node in the middle. -/
theorem ring_mid {b e : Nat} {u z : List Nat} (h : ring nx pv b (u ++ e :: z)) : nx e = some (hd z b) ∧ pv e = some (lt b u) := by
  obtain ⟨xs, hx, _, _⟩ := lt_snoc b u
  obtain ⟨ys, hy, _, _⟩ := hd_cons b z
  unfold ring at h
  have e2 : b :: (u ++ e :: z) ++ [b] = xs ++ lt b u :: e :: hd z b :: ys := by
    have : b :: (u ++ e :: z) ++ [b] = (b :: u) ++ e :: (z ++ [b]) := by simp
    rw [this, hx, hy]; simp
  rw [e2, linked_append] at h
  exact ⟨h.2.2.2.1, h.2.2.1⟩

/-- What a ring says of two neighbours, of which one may be the root. -/
theorem ring_between {b : Nat} {u z : List Nat} (h : ring nx pv b (u ++ z)) : nx (lt b u) = some (hd z b) ∧ pv (hd z b) = some (lt b u) := by
  obtain ⟨xs, hx, _, _⟩ := lt_snoc b u
  obtain ⟨ys, hy, _, _⟩ := hd_cons b z
  unfold ring at h
  have e1 : b :: (u ++ z) ++ [b] = xs ++ lt b u :: hd z b :: ys := by
    have : b :: (u ++ z) ++ [b] = (b :: u) ++ (z ++ [b]) := by simp
    rw [this, hx, hy]; simp
  rw [e1, linked_append] at h
  exact ⟨h.2.1, h.2.2.1⟩

theorem ring_congr {b : Nat} {s : List Nat} (h : ring nx pv b s) (h1 : ∀ x, x = b ∨ x ∈ s → nx' x = nx x) (h2 : ∀ x, x = b ∨ x ∈ s → pv' x = pv x) : ring nx' pv' b s := by
  refine linked_congr _ (fun x hx => h1 x ?_) (fun y hy => h2 y ?_) h
  · rw [List.dropLast_concat] at hx; simpa using hx
  · simp only [List.cons_append, List.tail_cons, List.mem_append, List.mem_singleton] at hy; exact hy.symm

theorem ring_new (b : Nat) : ring (upd nx b (some b)) (upd pv b (some b)) b [] := by simp [ring, linked, upd]
end
end Bead
end Go.Proofs.Ytidnmanljdadaaa
