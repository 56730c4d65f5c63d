/- How the reference's model (package spec) lies in memory: what its rows hold, and what stores into them do. No code is walked here. -/
import Derived.Test.YtidnmanljdadaaaMem2
set_option linter.all false
namespace Go.Proofs.Ytidnmanljdadaaa
open Go.RowKit
namespace Bead
set_option maxRecDepth 100000

/-- The list of f 0, .., f (n - 1). -/
def tab {α : Type} (n : Nat) (f : Nat → α) : List α := (List.range n).map f
section
variable {α : Type} {n : Nat} {f f' : Nat → α}
theorem tab_length : (tab n f).length = n := by simp [tab]
theorem tab_get {i : Nat} (h : i < n) : (tab n f)[i]? = some (f i) := by simp [tab, h]
theorem tab_snoc : tab (n + 1) f = tab n f ++ [f n] := by simp [tab, List.range_succ]
theorem tab_congr (h : ∀ i, i < n → f i = f' i) : tab n f = tab n f' := by
  unfold tab
  exact List.map_congr_left (fun i hi => h i (by simpa using hi))
theorem tab_set {i : Nat} (v : α) : (tab n f).set i v = tab n (upd f i v) := by
  apply List.ext_getElem?
  intro j
  rw [List.getElem?_set]
  by_cases hj : j < n
  · rw [tab_get hj]
    by_cases q : i = j
    · subst q; rw [if_pos rfl, tab_length, if_pos hj, tab_get hj, upd_same]
    · rw [if_neg q, tab_get hj, upd_other _ _ (fun e => q e.symm)]
  · have h1 : ∀ g : Nat → α, (tab n g)[j]? = none := fun g => by simp [tab]; omega
    rw [h1, h1, tab_length]
    split
    · rw [if_neg (by omega)]
    · rfl
end

def optI : Option Nat → Int
  | none => -1
  | some k => k
theorem optI_some (k : Nat) : optI (some k) = k := rfl
theorem optI_none : optI none = -1 := rfl

/-- The parts of element e. -/
def ecells (m : Md) (e : Nat) : List Value := [.int .i64 (m.val e).kind, .int .i64 (m.val e).n, .string (m.val e).s, .int .i64 (optI (m.inn e)), .int .i64 (optI (m.clr e)), .int .i64 (optI (m.fst e))]
theorem ecells_length (m : Md) (e : Nat) : (ecells m e).length = 6 := rfl
def erow (m : Md) (n : Nat) : List Value := (List.range n).flatMap (ecells m)
theorem erow_length (m : Md) (n : Nat) : (erow m n).length = n * 6 := by
  unfold erow; rw [flat_length _ 6 (ecells_length m)]; simp
theorem erow_get (m : Md) {n e j : Nat} (he : e < n) (hj : j < 6) : (erow m n)[e * 6 + j]? = (ecells m e)[j]? :=
  flat_get _ 6 (ecells_length m) _ e j e (by simp [he]) hj
theorem erow_snoc (m : Md) (n : Nat) : erow m (n + 1) = erow m n ++ ecells m n := by simp [erow, List.range_succ]
theorem erow_congr {m m' : Md} {n : Nat} (h : ∀ e, e < n → ecells m e = ecells m' e) : erow m n = erow m' n := by
  unfold erow
  induction n with
  | zero => rfl
  | succ n ih => rw [List.range_succ, List.flatMap_append, List.flatMap_append, ih (fun e he => h e (by omega))]; simp [h n (by omega)]
/-- One part of one element is replaced. -/
theorem erow_set {m m' : Md} {n e j : Nat} {v : Value} (he : e < n) (hj : j < 6) (h1 : ecells m' e = (ecells m e).set j v) (h2 : ∀ i, ¬ i = e → ecells m' i = ecells m i) : (erow m n).set (e * 6 + j) v = erow m' n := by
  apply List.ext_getElem?
  intro k
  rw [List.getElem?_set]
  by_cases hk : k < n * 6
  · have hd : k / 6 < n := by omega
    have hm : k % 6 < 6 := Nat.mod_lt _ (by decide)
    have hkk : k / 6 * 6 + k % 6 = k := by omega
    by_cases q : e * 6 + j = k
    · have q1 : k / 6 = e := by omega
      have q2 : k % 6 = j := by omega
      rw [if_pos q, erow_length, if_pos (by omega), ← q, erow_get m' he hj, h1, List.getElem?_set, if_pos rfl, ecells_length, if_pos hj]
    · rw [if_neg q, ← hkk, erow_get m hd hm, erow_get m' hd hm]
      by_cases r : k / 6 = e
      · rw [r, h1, List.getElem?_set, if_neg (by omega)]
      · rw [h2 _ r]
  · have hn : ∀ g : Md, (erow g n)[k]? = none := fun g => by rw [List.getElem?_eq_none_iff, erow_length]; omega
    rw [hn, hn, erow_length]
    split
    · rw [if_neg (by omega)]
    · rfl

/-- The slice x holds the numbers s; nothing is asked of what lies behind them. -/
def IRow (w : World) (x : Value) (s : List Nat) : Prop :=
  (x = .slice none 0 0 ∧ s = []) ∨ ∃ (b cap : Nat) (c : Array Value), x = .slice (some ⟨b, 0, none⟩) s.length cap ∧ w.heap[b]? = some (.cells c 3 (0, 0)) ∧ s.length ≤ cap ∧ cap ≤ maxLen ∧ cap ≤ c.size ∧ ∀ (i e : Nat), s[i]? = some e → c[i]? = some (Value.int .i64 (e : Nat))

section
variable {w w' : World} {x : Value} {s : List Nat}
theorem IRow.nil (w : World) : IRow w (.slice none 0 0) [] := Or.inl ⟨rfl, rfl⟩
theorem IRow.of_blocks (h : IRow w x s) (hb : ∀ k, x.ownBlock = some k → w'.heap[k]? = w.heap[k]?) : IRow w' x s := by
  rcases h with h | ⟨b, cap, c, rfl, h2, h3⟩
  · exact Or.inl h
  · exact Or.inr ⟨b, cap, c, rfl, (hb b rfl).trans h2, h3⟩
theorem IRow.of_own {B : Nat} (h : w.ownsRow B 3 1 x s.length (s.map fun e => .int .i64 (e : Nat))) : IRow w x s := by
  rcases h.2 with ⟨rfl, q⟩ | ⟨g, cap, cur, rfl, _, hg, h1, h2, h3, h4⟩
  · exact Or.inl ⟨rfl, List.eq_nil_of_length_eq_zero q⟩
  · refine Or.inr ⟨g, cap, cur, rfl, hg, h1, h2, by omega, fun i e he => ?_⟩
    have hi := (List.getElem?_eq_some_iff.1 he).1
    have h5 : (cur.toList.take (s.length * 1))[i]? = some (.int .i64 (e : Nat)) := by rw [h4, List.getElem?_map, he]; rfl
    rw [List.getElem?_take, if_pos (by omega)] at h5
    simpa using h5
theorem IRow.kind (h : IRow w x s) : ∀ k, x.ownBlock = some k → ∃ c, w.heap[k]? = some (.cells c 3 (0, 0)) := by
  rcases h with ⟨rfl, _⟩ | ⟨b, cap, c, rfl, h2, _⟩
  · intro k hk; simp [Value.ownBlock] at hk
  · intro k hk; simp [Value.ownBlock] at hk; subst hk; exact ⟨c, h2⟩
theorem IRow.lt (h : IRow w x s) : ∀ k, x.ownBlock = some k → k < w.heap.size := fun k hk => by
  obtain ⟨c, hc⟩ := h.kind k hk; exact (Array.getElem?_eq_some_iff.1 hc).1
end

theorem own_of_blocks {w w' : World} {B : Nat} {e : TypeId} {sz : Nat} {v : Value} {n : Nat} {xs : List Value} (h : w.ownsRow B e sz v n xs) (hb : ∀ k, v.ownBlock = some k → w'.heap[k]? = w.heap[k]?) : w'.ownsRow B e sz v n xs := by
  refine ⟨h.1, ?_⟩
  rcases h.2 with q | ⟨g, cap, cur, rfl, h2, h3, h4⟩
  · exact .inl q
  · exact .inr ⟨g, cap, cur, rfl, h2, (hb g rfl).trans h3, h4⟩
theorem own_kind {w : World} {B : Nat} {e : TypeId} {sz : Nat} {v : Value} {n : Nat} {xs : List Value} (h : w.ownsRow B e sz v n xs) : ∀ k, v.ownBlock = some k → ∃ c, w.heap[k]? = some (.cells c e (0, 0)) := by
  rcases h.2 with ⟨rfl, _⟩ | ⟨g, cap, cur, rfl, h2, h3, h4⟩
  · intro k hk; simp [Value.ownBlock] at hk
  · intro k hk; simp [Value.ownBlock] at hk; subst hk; exact ⟨cur, h3⟩

def rowB (m : Md) (i : Nat) : Value := .bool (m.isL i)
def rowR (m : Md) (i : Nat) : Value := .int .i64 (optI (m.ret i))

/-- The model at block g: its four slices; ls: the lists' own slices. -/
structure SR (w : World) (B g : Nat) (m : Md) (v0 v1 v2 v3 : Value) (ls : Nat → Value) : Prop where
  pc : w.heap[g]? = some (Obj.cells #[v0, v1, v2, v3] 104 (0, 0))
  r0 : w.ownsRow B 4 1 v0 m.len (tab m.len (rowB m))
  r1 : w.ownsRow B 27 1 v1 m.len (tab m.len ls)
  r2 : w.ownsRow B 3 1 v2 m.len (tab m.len (rowR m))
  r3 : w.ownsRow B 146 6 v3 m.cnt (erow m m.cnt)
  ll : ∀ i, i < m.len → IRow w (ls i) (m.seq i)
  dist : ∀ i b, i < m.len → (ls i).ownBlock = some b → v2.ownBlock ≠ some b
  base : B ≤ g

/-- The blocks that the model's methods write. -/
def Foot (g : Nat) (v0 v1 v2 v3 : Value) (k : Nat) : Prop := k = g ∨ v0.ownBlock = some k ∨ v1.ownBlock = some k ∨ v2.ownBlock = some k ∨ v3.ownBlock = some k

section
variable {w w' : World} {B g b0 b1 b2 b3 cap : Nat} {m m' : Md} {v0 v1 v2 v3 : Value} {ls : Nat → Value}
theorem SR.lt (h : SR w B g m v0 v1 v2 v3 ls) {k : Nat} (hk : Foot g v0 v1 v2 v3 k) : B ≤ k ∧ k < w.heap.size := by
  rcases hk with rfl | q | q | q | q
  · exact ⟨h.base, (Array.getElem?_eq_some_iff.1 h.pc).1⟩
  · exact h.r0.lt k q
  · exact h.r1.lt k q
  · exact h.r2.lt k q
  · exact h.r3.lt k q
theorem SR.of_blocks (h : SR w B g m v0 v1 v2 v3 ls) (hb : ∀ k, (Foot g v0 v1 v2 v3 k ∨ ∃ i, i < m.len ∧ (ls i).ownBlock = some k) → w'.heap[k]? = w.heap[k]?) : SR w' B g m v0 v1 v2 v3 ls :=
  ⟨(hb g (.inl (.inl rfl))).trans h.pc, own_of_blocks h.r0 (fun k q => hb k (.inl (.inr (.inl q)))), own_of_blocks h.r1 (fun k q => hb k (.inl (.inr (.inr (.inl q))))), own_of_blocks h.r2 (fun k q => hb k (.inl (.inr (.inr (.inr (.inl q)))))),
   own_of_blocks h.r3 (fun k q => hb k (.inl (.inr (.inr (.inr (.inr q)))))), fun i hi => (h.ll i hi).of_blocks (fun k q => hb k (.inr ⟨i, hi, q⟩)), h.dist, h.base⟩
theorem SR.lt' (h : SR w B g m v0 v1 v2 v3 ls) {k : Nat} (hk : Foot g v0 v1 v2 v3 k ∨ ∃ i, i < m.len ∧ (ls i).ownBlock = some k) : k < w.heap.size := by
  rcases hk with q | ⟨i, hi, q⟩
  · exact (h.lt q).2
  · exact (h.ll i hi).lt k q
theorem SR.below (h : SR w B g m v0 v1 v2 v3 ls) (hb : Below w.heap.size w w') : SR w' B g m v0 v1 v2 v3 ls := h.of_blocks (fun k q => hb.block k (h.lt' q))
theorem SR.alloc (h : SR w B g m v0 v1 v2 v3 ls) (o : Obj) : SR (w.alloc o) B g m v0 v1 v2 v3 ls := h.of_blocks (fun k q => Below.heap_alloc _ _ _ (h.lt' q))
theorem SR.drewN (h : SR w B g m v0 v1 v2 v3 ls) (n : Nat) : SR (w.drewN n) B g m v0 v1 v2 v3 ls := h.of_blocks (fun _ _ => rfl)
theorem SR.drew (h : SR w B g m v0 v1 v2 v3 ls) : SR w.drew B g m v0 v1 v2 v3 ls := h.of_blocks (fun _ _ => rfl)
/-- A store into a block of another kind. -/
theorem SR.setOther (h : SR w B g m v0 v1 v2 v3 ls) {a : Addr} {c : Array Value} {t : TypeId} (ha : w.heap[a.block]? = some (Obj.cells c t (0, 0))) (v : Value)
    (h1 : t ≠ 104) (h2 : t ≠ 4) (h3 : t ≠ 27) (h4 : t ≠ 3) (h5 : t ≠ 146) : SR (w.setCell a v) B g m v0 v1 v2 v3 ls := by
  refine h.of_blocks (fun k q => heap_set_other ?_)
  rintro rfl
  rcases q with (q | q | q | q | q) | ⟨i, hi, q⟩
  · have := h.pc; rw [← q, ha] at this; simp at this; exact h1 this.2
  · obtain ⟨d, hd⟩ := own_kind h.r0 _ q; rw [ha] at hd; simp at hd; exact h2 hd.2
  · obtain ⟨d, hd⟩ := own_kind h.r1 _ q; rw [ha] at hd; simp at hd; exact h3 hd.2
  · obtain ⟨d, hd⟩ := own_kind h.r2 _ q; rw [ha] at hd; simp at hd; exact h4 hd.2
  · obtain ⟨d, hd⟩ := own_kind h.r3 _ q; rw [ha] at hd; simp at hd; exact h5 hd.2
  · obtain ⟨d, hd⟩ := (h.ll i hi).kind _ q; rw [ha] at hd; simp at hd; exact h4 hd.2

theorem SR.c0 (h : SR w B g m v0 v1 v2 v3 ls) : w.cell? ⟨g, 0, none⟩ = some v0 := cell_of_heap h.pc rfl
theorem SR.c1 (h : SR w B g m v0 v1 v2 v3 ls) : w.cell? ⟨g, 1, none⟩ = some v1 := cell_of_heap h.pc rfl
theorem SR.c2 (h : SR w B g m v0 v1 v2 v3 ls) : w.cell? ⟨g, 2, none⟩ = some v2 := cell_of_heap h.pc rfl
theorem SR.c3 (h : SR w B g m v0 v1 v2 v3 ls) : w.cell? ⟨g, 3, none⟩ = some v3 := cell_of_heap h.pc rfl
theorem SR.free (h : SR w B g m v0 v1 v2 v3 ls) (o : Nat) : w.frozen? ⟨g, o, none⟩ = false := free_of_heap h.pc

theorem own_form {B : Nat} {e : TypeId} {sz : Nat} {v : Value} {n : Nat} {xs : List Value} (h : w.ownsRow B e sz v n xs) (hn : 0 < n) : ∃ b cap, v = .slice (some ⟨b, 0, none⟩) n cap := by
  rcases h.2 with ⟨_, q⟩ | ⟨b, cap, _, q, _⟩
  · omega
  · exact ⟨b, cap, q⟩
theorem SR.at0 (h : SR w B g m v0 v1 v2 v3 ls) {i : Nat} (hi : i < m.len) : ∃ b cap, v0 = .slice (some ⟨b, 0, none⟩) m.len cap ∧ w.cell? ⟨b, i, none⟩ = some (.bool (m.isL i)) ∧ w.frozen? ⟨b, i, none⟩ = false := by
  obtain ⟨b, cap, rfl⟩ := own_form h.r0 (by omega)
  exact ⟨b, cap, rfl, by rw [h.r0.cellAt i (by omega), tab_get hi]; rfl, h.r0.frozenAt i⟩
theorem SR.at1 (h : SR w B g m v0 v1 v2 v3 ls) {i : Nat} (hi : i < m.len) : ∃ b cap, v1 = .slice (some ⟨b, 0, none⟩) m.len cap ∧ w.cell? ⟨b, i, none⟩ = some (ls i) ∧ w.frozen? ⟨b, i, none⟩ = false := by
  obtain ⟨b, cap, rfl⟩ := own_form h.r1 (by omega)
  exact ⟨b, cap, rfl, by rw [h.r1.cellAt i (by omega), tab_get hi], h.r1.frozenAt i⟩
theorem SR.at2 (h : SR w B g m v0 v1 v2 v3 ls) {i : Nat} (hi : i < m.len) : ∃ b cap, v2 = .slice (some ⟨b, 0, none⟩) m.len cap ∧ w.cell? ⟨b, i, none⟩ = some (.int .i64 (optI (m.ret i))) ∧ w.frozen? ⟨b, i, none⟩ = false := by
  obtain ⟨b, cap, rfl⟩ := own_form h.r2 (by omega)
  exact ⟨b, cap, rfl, by rw [h.r2.cellAt i (by omega), tab_get hi]; rfl, h.r2.frozenAt i⟩
theorem SR.at3 (h : SR w B g m v0 v1 v2 v3 ls) {e : Nat} (he : e < m.cnt) : ∃ b cap, v3 = .slice (some ⟨b, 0, none⟩) m.cnt cap ∧ (∀ j y, (ecells m e)[j]? = some y → w.cell? ⟨b, e * 6 + j, none⟩ = some y) ∧ ∀ j, w.frozen? ⟨b, j, none⟩ = false := by
  obtain ⟨b, cap, rfl⟩ := own_form h.r3 (by omega)
  refine ⟨b, cap, rfl, fun j y hy => ?_, fun j => h.r3.frozenAt j⟩
  have hj : j < 6 := (List.getElem?_eq_some_iff.1 hy).1
  rw [h.r3.cellAt _ (by omega), erow_get m he hj, hy]

/-- Stores into the rows. -/
theorem SR.set0 (h : SR w B g m (.slice (some ⟨b0, 0, none⟩) m.len cap) v1 v2 v3 ls) (i : Nat) (x : Bool) (hm : m' = { m with isL := upd m.isL i x }) :
    SR (w.setCell ⟨b0, i, none⟩ (.bool x)) B g m' (.slice (some ⟨b0, 0, none⟩) m.len cap) v1 v2 v3 ls := by
  subst hm
  obtain ⟨d, hd⟩ := own_kind h.r0 b0 rfl
  have ho : ∀ {k : Nat} {c : Array Value} {t : TypeId}, w.heap[k]? = some (Obj.cells c t (0, 0)) → t ≠ 4 → (w.setCell ⟨b0, i, none⟩ (.bool x)).heap[k]? = w.heap[k]? := by
    intro k c t hk ht
    refine heap_set_other ?_
    rintro rfl; rw [hd] at hk; simp at hk; exact ht hk.2.symm
  refine ⟨(ho h.pc (by decide)).trans h.pc, ?_, own_of_blocks h.r1 (fun k q => by obtain ⟨c, hc⟩ := own_kind h.r1 k q; exact ho hc (by decide)), own_of_blocks h.r2 (fun k q => by obtain ⟨c, hc⟩ := own_kind h.r2 k q; exact ho hc (by decide)),
    own_of_blocks h.r3 (fun k q => by obtain ⟨c, hc⟩ := own_kind h.r3 k q; exact ho hc (by decide)), fun j hj => (h.ll j hj).of_blocks (fun k q => by obtain ⟨c, hc⟩ := (h.ll j hj).kind k q; exact ho hc (by decide)), h.dist, h.base⟩
  have := (h.r0.stored i (.bool x)).1
  rw [tab_set] at this
  refine cast (congrArg (fun l => (w.setCell ⟨b0, i, none⟩ (.bool x)).ownsRow B 4 1 (.slice (some ⟨b0, 0, none⟩) m.len cap) m.len l) (tab_congr ?_)) this
  intro j _
  simp only [rowB, upd]; split <;> rfl
theorem SR.set2 (h : SR w B g m v0 v1 (.slice (some ⟨b2, 0, none⟩) m.len cap) v3 ls) (i : Nat) (x : Option Nat) (hm : m' = { m with ret := upd m.ret i x }) :
    SR (w.setCell ⟨b2, i, none⟩ (.int .i64 (optI x))) B g m' v0 v1 (.slice (some ⟨b2, 0, none⟩) m.len cap) v3 ls := by
  subst hm
  obtain ⟨d, hd⟩ := own_kind h.r2 b2 rfl
  have ho : ∀ {k : Nat} {c : Array Value} {t : TypeId}, w.heap[k]? = some (Obj.cells c t (0, 0)) → t ≠ 3 → (w.setCell ⟨b2, i, none⟩ (.int .i64 (optI x))).heap[k]? = w.heap[k]? := by
    intro k c t hk ht
    refine heap_set_other ?_
    rintro rfl; rw [hd] at hk; simp at hk; exact ht hk.2.symm
  refine ⟨(ho h.pc (by decide)).trans h.pc, own_of_blocks h.r0 (fun k q => by obtain ⟨c, hc⟩ := own_kind h.r0 k q; exact ho hc (by decide)), own_of_blocks h.r1 (fun k q => by obtain ⟨c, hc⟩ := own_kind h.r1 k q; exact ho hc (by decide)), ?_,
    own_of_blocks h.r3 (fun k q => by obtain ⟨c, hc⟩ := own_kind h.r3 k q; exact ho hc (by decide)), fun j hj => (h.ll j hj).of_blocks (fun k q => heap_set_other ?_), h.dist, h.base⟩
  · have := (h.r2.stored i (.int .i64 (optI x))).1
    rw [tab_set] at this
    refine cast (congrArg (fun l => (w.setCell ⟨b2, i, none⟩ (.int .i64 (optI x))).ownsRow B 3 1 (.slice (some ⟨b2, 0, none⟩) m.len cap) m.len l) (tab_congr ?_)) this
    intro j _
    simp only [rowR, upd]; split <;> rfl
  · rintro rfl
    exact h.dist j _ hj q rfl
theorem SR.set3 (h : SR w B g m v0 v1 v2 (.slice (some ⟨b3, 0, none⟩) m.cnt cap) ls) {e j : Nat} (he : e < m.cnt) (hj : j < 6) (v : Value) (hm : m'.len = m.len ∧ m'.cnt = m.cnt ∧ m'.isL = m.isL ∧ m'.seq = m.seq ∧ m'.ret = m.ret)
    (h1 : ecells m' e = (ecells m e).set j v) (h2 : ∀ i, ¬ i = e → ecells m' i = ecells m i) :
    SR (w.setCell ⟨b3, e * 6 + j, none⟩ v) B g m' v0 v1 v2 (.slice (some ⟨b3, 0, none⟩) m.cnt cap) ls := by
  obtain ⟨d, hd⟩ := own_kind h.r3 b3 rfl
  have ho : ∀ {k : Nat} {c : Array Value} {t : TypeId}, w.heap[k]? = some (Obj.cells c t (0, 0)) → t ≠ 146 → (w.setCell ⟨b3, e * 6 + j, none⟩ v).heap[k]? = w.heap[k]? := by
    intro k c t hk ht
    refine heap_set_other ?_
    rintro rfl; rw [hd] at hk; simp at hk; exact ht hk.2.symm
  obtain ⟨q1, q2, q3, q4, q5⟩ := hm
  have e0 : rowB m' = rowB m := by funext i; simp [rowB, q3]
  have e2 : rowR m' = rowR m := by funext i; simp [rowR, q5]
  refine ⟨(ho h.pc (by decide)).trans h.pc, ?_, ?_, ?_, ?_, ?_, ?_, h.base⟩
  · rw [q1, e0]; exact own_of_blocks h.r0 (fun k q => by obtain ⟨c, hc⟩ := own_kind h.r0 k q; exact ho hc (by decide))
  · rw [q1]; exact own_of_blocks h.r1 (fun k q => by obtain ⟨c, hc⟩ := own_kind h.r1 k q; exact ho hc (by decide))
  · rw [q1, e2]; exact own_of_blocks h.r2 (fun k q => by obtain ⟨c, hc⟩ := own_kind h.r2 k q; exact ho hc (by decide))
  · have := (h.r3.stored (e * 6 + j) v).1
    rw [erow_set he hj h1 h2] at this
    rw [q2]; exact this
  · intro i hi
    rw [q1] at hi
    rw [q4]
    exact (h.ll i hi).of_blocks (fun k q => by obtain ⟨c, hc⟩ := (h.ll i hi).kind k q; exact ho hc (by decide))
  · intro i b hi; rw [q1] at hi; exact h.dist i b hi
theorem SR.set1 (h : SR w B g m v0 (.slice (some ⟨b1, 0, none⟩) m.len cap) v2 v3 ls) {l : Nat} (hl : l < m.len) {x : Value} {s : List Nat} (hx : IRow w x s) (hd : ∀ b, x.ownBlock = some b → v2.ownBlock ≠ some b) (hm : m' = m.setSeq l s) :
    SR (w.setCell ⟨b1, l, none⟩ x) B g m' v0 (.slice (some ⟨b1, 0, none⟩) m.len cap) v2 v3 (upd ls l x) := by
  subst hm
  obtain ⟨d, hd1⟩ := own_kind h.r1 b1 rfl
  have ho : ∀ {k : Nat} {c : Array Value} {t : TypeId}, w.heap[k]? = some (Obj.cells c t (0, 0)) → t ≠ 27 → (w.setCell ⟨b1, l, none⟩ x).heap[k]? = w.heap[k]? := by
    intro k c t hk ht
    refine heap_set_other ?_
    rintro rfl; rw [hd1] at hk; simp at hk; exact ht hk.2.symm
  refine ⟨(ho h.pc (by decide)).trans h.pc, own_of_blocks h.r0 (fun k q => by obtain ⟨c, hc⟩ := own_kind h.r0 k q; exact ho hc (by decide)), ?_, own_of_blocks h.r2 (fun k q => by obtain ⟨c, hc⟩ := own_kind h.r2 k q; exact ho hc (by decide)),
    own_of_blocks h.r3 (fun k q => by obtain ⟨c, hc⟩ := own_kind h.r3 k q; exact ho hc (by decide)), fun j hj => ?_, fun j b hj => ?_, h.base⟩
  · have := (h.r1.stored l x).1
    rw [tab_set] at this
    exact this
  · simp only [Md.setSeq]
    by_cases q : j = l
    · subst q; rw [upd_same, upd_same]; exact hx.of_blocks (fun k q => by obtain ⟨c, hc⟩ := hx.kind k q; exact ho hc (by decide))
    · rw [upd_other _ _ q, upd_other _ _ q]; exact (h.ll j hj).of_blocks (fun k q => by obtain ⟨c, hc⟩ := (h.ll j hj).kind k q; exact ho hc (by decide))
  · by_cases q : j = l
    · subst q; rw [upd_same]; exact hd b
    · rw [upd_other _ _ q]; exact h.dist j b hj
end

/-- The model at g; F holds its blocks. -/
def ST (w : World) (B g : Nat) (F : Nat → Prop) (m : Md) : Prop :=
  ∃ v0 v1 v2 v3 ls, SR w B g m v0 v1 v2 v3 ls ∧ (∀ k, Foot g v0 v1 v2 v3 k → F k) ∧ ∀ k, F k → B ≤ k ∧ k < w.heap.size
/-- What a method leaves. -/
def SP (w w' : World) (B g : Nat) (F : Nat → Prop) (m' : Md) : Prop :=
  ∃ F', ST w' B g F' m' ∧ (∀ k, F' k → F k ∨ w.heap.size ≤ k) ∧ Keeps F w w'

section
variable {w w' w'' : World} {B g : Nat} {F : Nat → Prop} {m m' m'' : Md}
theorem ST.below (h : ST w B g F m) (hb : Below w.heap.size w w') : ST w' B g F m := by
  obtain ⟨v0, v1, v2, v3, ls, a, b, c⟩ := h
  exact ⟨v0, v1, v2, v3, ls, a.below hb, b, fun k q => ⟨(c k q).1, Nat.lt_of_lt_of_le (c k q).2 hb.size⟩⟩
theorem ST.alloc (h : ST w B g F m) (o : Obj) : ST (w.alloc o) B g F m := h.below ((Below.refl _ _).alloc (Nat.le_refl _) _)
theorem ST.drew (h : ST w B g F m) : ST w.drew B g F m := h.below (Below.refl _ _).drew
theorem ST.drewN (h : ST w B g F m) (n : Nat) : ST (w.drewN n) B g F m := by
  obtain ⟨v0, v1, v2, v3, ls, a, b, c⟩ := h
  exact ⟨v0, v1, v2, v3, ls, a.of_blocks (fun _ _ => rfl), b, c⟩
/-- A method that only reads. -/
theorem SP.refl (h : ST w B g F m) : SP w w B g F m := ⟨F, h, fun _ q => .inl q, Keeps.refl _ _⟩
theorem SP.of_below (h : ST w B g F m) (hb : Below w.heap.size w w') : SP w w' B g F m := ⟨F, h.below hb, fun _ q => .inl q, ⟨hb.os, hb.tape, hb.output, hb.size, fun k hk _ => hb.block k hk⟩⟩
theorem SP.trans (h : SP w w' B g F m') (k : ∀ F', ST w' B g F' m' → (∀ k, F' k → F k ∨ w.heap.size ≤ k) → SP w' w'' B g F' m'') : SP w w'' B g F m'' := by
  obtain ⟨F', a, b, c⟩ := h
  obtain ⟨F2, a2, b2, c2⟩ := k F' a b
  refine ⟨F2, a2, fun i q => ?_, c.then c2 (fun i hi q => ?_)⟩
  · rcases b2 i q with r | r
    · exact b i r
    · exact .inr (Nat.le_trans c.size r)
  · rcases b i q with r | r
    · exact r
    · omega
theorem SP.alloc (h : SP w w' B g F m') (o : Obj) : SP w (w'.alloc o) B g F m' := h.trans (fun _ a _ => SP.of_below a ((Below.refl _ _).alloc (Nat.le_refl _) _))
theorem SP.drew (h : SP w w' B g F m') : SP w w'.drew B g F m' := h.trans (fun _ a _ => SP.of_below a (Below.refl _ _).drew)
/-- The call began a little earlier. -/
theorem SP.from (h : SP w' w'' B g F m'') (hb : Below w.heap.size w w') (hF : ∀ k, F k → k < w.heap.size) : SP w w'' B g F m'' := by
  obtain ⟨F', a, b, c⟩ := h
  refine ⟨F', a, fun k q => ?_, ⟨c.os.trans hb.os, c.tape.trans hb.tape, c.output.trans hb.output, Nat.le_trans hb.size c.size, fun k hk hS => (c.block k (Nat.lt_of_lt_of_le hk hb.size) hS).trans (hb.block k hk)⟩⟩
  rcases b k q with r | r
  · exact .inl r
  · exact .inr (Nat.le_trans hb.size r)
theorem ST.lt (h : ST w B g F m) : ∀ k, F k → k < w.heap.size := by
  obtain ⟨_, _, _, _, _, _, _, c⟩ := h; exact fun k q => (c k q).2
/-- A store into a block that is not the model's, made during the call. -/
theorem SP.setNew (h : SP w w' B g F m') {a : Addr} {c : Array Value} {t : TypeId} (ha : w'.heap[a.block]? = some (Obj.cells c t (0, 0))) (hlt : w.heap.size ≤ a.block) (v : Value)
    (h1 : t ≠ 104) (h2 : t ≠ 4) (h3 : t ≠ 27) (h4 : t ≠ 3) (h5 : t ≠ 146) : SP w (w'.setCell a v) B g F m' := by
  obtain ⟨F', ⟨v0, v1, v2, v3, ls, r, f, l⟩, b, k⟩ := h
  exact ⟨F', ⟨v0, v1, v2, v3, ls, r.setOther ha v h1 h2 h3 h4 h5, f, fun i q => ⟨(l i q).1, by simpa [World.setCell] using (l i q).2⟩⟩, b, k.setCell (fun q => absurd q (by omega)) v⟩
end
end Bead
end Go.Proofs.Ytidnmanljdadaaa
