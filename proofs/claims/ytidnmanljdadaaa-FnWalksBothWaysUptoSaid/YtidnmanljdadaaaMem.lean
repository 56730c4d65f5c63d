/- Slices in memory: what a slice reads as, and one law for append onto a slice of the call's own, whatever is appended. No code is walked here. -/
import Derived.Test.YtidnmanljdadaaaHeap
import Derived.Test.YtidnmanljdadaaaVals
import Derived.Laws.AppendOwnNone
import Derived.Deep.OwnRows
set_option linter.all false
namespace Go.Proofs.Ytidnmanljdadaaa
open Go.RowKit
namespace Bead

/-- The slice value v, of n elements, reads as the cells xs. -/
def Sl (w : World) (v : Value) (n : Nat) (xs : List Value) : Prop :=
  ∃ a cap, v = .slice a n cap ∧ (xs ≠ [] → ∃ b off, a = some ⟨b, off, none⟩ ∧ ∀ k x, xs[k]? = some x → w.cell? ⟨b, off + k, none⟩ = some x)

section
variable {w w' : World} {v : Value} {n : Nat} {xs : List Value}
theorem Sl.keep {S : Nat → Prop} (h : Sl w v n xs) (hk : Keeps S w w') (hS : ∀ b, v.ownBlock = some b → ¬ S b) : Sl w' v n xs := by
  obtain ⟨a, cap, rfl, h2⟩ := h
  refine ⟨a, cap, rfl, fun hne => ?_⟩
  obtain ⟨b, off, rfl, h3⟩ := h2 hne
  exact ⟨b, off, rfl, fun k x hx => hk.cell (h3 k x hx) (hS b rfl)⟩
theorem Sl.below {B : Nat} (h : Sl w v n xs) (hb : Below B w w') (hB : ∀ b, v.ownBlock = some b → b < B) : Sl w' v n xs := by
  obtain ⟨a, cap, rfl, h2⟩ := h
  refine ⟨a, cap, rfl, fun hne => ?_⟩
  obtain ⟨b, off, rfl, h3⟩ := h2 hne
  exact ⟨b, off, rfl, fun k x hx => (hb.cell (p := ⟨b, off + k, none⟩) (hB b rfl)).trans (h3 k x hx)⟩
/-- What reads, reads in every later world that keeps all old blocks. -/
theorem Sl.later (h : Sl w v n xs) (hb : Below w.heap.size w w') : Sl w' v n xs := by
  obtain ⟨a, cap, rfl, h2⟩ := h
  refine ⟨a, cap, rfl, fun hne => ?_⟩
  obtain ⟨b, off, rfl, h3⟩ := h2 hne
  exact ⟨b, off, rfl, fun k x hx => (hb.cell (p := ⟨b, off + k, none⟩) (World.block_lt_of_cell? w _ (h3 k x hx))).trans (h3 k x hx)⟩
theorem Sl.drew (h : Sl w v n xs) : Sl w.drew v n xs := h
theorem Sl.nil (w : World) : Sl w (.slice none 0 0) 0 [] := ⟨none, 0, rfl, fun h => absurd rfl h⟩
theorem Sl.of_own {base : Nat} {e : TypeId} {size : Nat} (h : w.ownsRow base e size v n xs) : Sl w v n xs := by
  rcases h.2 with ⟨rfl, rfl⟩ | ⟨g, cap, cur, rfl, _, hg, _, _, _, _⟩
  · exact ⟨none, 0, rfl, fun hne => absurd (List.eq_nil_of_length_eq_zero (by simpa using h.1)) hne⟩
  · refine ⟨_, _, rfl, fun _ => ⟨g, 0, rfl, fun k x hx => ?_⟩⟩
    have := h.cells (g := g) rfl k x hx
    unfold Addr.add at this
    split at this
    · rename_i q; subst q; exact this
    · exact this
end

theorem grownBy_keeps {w w' : World} {row : Option Nat} (h : w.grownBy w' row) : Keeps (fun k => row = some k) w w' := ⟨h.os, h.tape, h.output, h.size, fun k hk hS => h.block k hk (fun q => hS q.symm)⟩

/-- append onto a slice of the call's own, whatever is appended. -/
theorem wpList_app {P : Program} {w : World} {ops : Array Oper} {rest : List Oper} {o : Oper} {a : Act} {Q : Exit → Act → World → Prop} (hgd : o.guard = none) (s x : Operand) (t : TypeId)
    (ho : o.op = .call { callee := .builtin .append, args := #[s, x], argTypes := #[t, t] })
    (base : Nat) (e : TypeId) (z : Value) (size bytes : Nat) (ht : P.underlying t = some (.slice e)) (hinfo : (P.info? e).map (fun i => (i.zero, i.size, i.bytes)) = some (some z, size, bytes)) (hzs : z.cells.size = size) (hsz : 0 < size)
    (v : Value) (n : Nat) (xs : List Value) (hs : a.eval s = v) (hown : w.ownsRow base e size v n xs)
    (vx : Value) (m : Nat) (news : List Value) (hx : a.eval x = vx) (hsl : Sl w vx m news) (hl : news.length = m * size) (h1 : ∀ u ∈ news, u.oneCell' = true) (hcap : vx = .slice none m 0 ∨ vx.ownBlock ≠ none ∨ m ≠ 0)
    (hbytes : (n + m) * bytes ≤ 140737488355328) (hb1 : 1 ≤ bytes) (hbase : base ≤ w.heap.size)
    (h : ∀ v' w', w'.ownsRow base e size v' (n + m) (xs ++ news) → w.grownBy w' v.ownBlock → wpList P ops Q rest (a.put o.dst v') w') : wpList P ops Q (o :: rest) a w := by
  obtain ⟨i, hi, hz0, hz1, hz2⟩ := info_parts hinfo
  obtain ⟨ad, cap, rfl, hc⟩ := hsl
  have hle : n + m ≤ (n + m) * bytes := Nat.le_mul_of_pos_right _ hb1
  have h63 : n + m ≤ maxLen := by unfold maxLen; omega
  cases ad with
  | some ad =>
    refine wpList_append_own _ hgd s x t ho base e i z size bytes ht hi hz0 hz1 hz2 hzs hsz v n xs hs hown ad m cap news hx hl ?_ h1 h63 hbytes hbase (fun v' w' a b _ => h v' w' a b)
    intro j u hu
    obtain ⟨b, off, hb, hc'⟩ := hc (by intro q; subst q; simp at hu)
    obtain rfl : ad = ⟨b, off, none⟩ := by simpa using hb
    have := hc' j u hu
    unfold Addr.add
    split
    · rename_i q; subst q; exact this
    · exact this
  | none =>
    have hm : m = 0 := by
      rcases Nat.eq_zero_or_pos m with q | q
      · exact q
      · have : news ≠ [] := by
          intro r; subst r
          have := Nat.mul_pos q hsz
          simp only [List.length_nil] at hl; omega
        obtain ⟨b, off, hb, _⟩ := hc this
        simp at hb
    subst hm
    have hnews : news = [] := List.eq_nil_of_length_eq_zero (by simpa using hl)
    subst hnews
    have hcap0 : cap = 0 := by
      rcases hcap with q | q | q
      · simpa using q
      · simp [Value.ownBlock] at q
      · exact absurd rfl q
    subst hcap0
    refine wpList_append_own_none hgd s x t ho base e i size ht hi v n xs hs hown hx (h v w ?_ ⟨rfl, rfl, rfl, Nat.le_refl _, fun _ _ _ => rfl⟩)
    simpa using hown

/-- A slice value that is nil is empty and has no room. -/
def Value.fair (v : Value) : Prop := ∀ n c, v = .slice none n c → c = 0
theorem fair_cap {v : Value} {m : Nat} (h : Value.fair v) (hs : ∃ a c, v = .slice a m c) : v = .slice none m 0 ∨ v.ownBlock ≠ none ∨ m ≠ 0 := by
  obtain ⟨a, c, rfl⟩ := hs
  cases a with
  | none => obtain rfl := h m c rfl; exact .inl rfl
  | some a => exact .inr (.inl (by simp [Value.ownBlock]))

def Cl.cells (c : Cl) : List Value := [.int .i64 c.op, .int .i64 c.list, .int .i64 c.other, .int .i64 c.elem, .int .i64 c.mark, .int .i64 c.v.kind, .int .i64 c.v.n, .string c.v.s]
def An.cells (a : An) : List Value := [.int .i64 a.elem, .int .i64 a.n, .int .i64 a.v.kind, .int .i64 a.v.n, .string a.v.s]

theorem flat_get {α : Type} (f : α → List Value) (sz : Nat) (hf : ∀ x, (f x).length = sz) : ∀ (l : List α) (i j : Nat) (x : α), l[i]? = some x → j < sz → (l.flatMap f)[i * sz + j]? = (f x)[j]?
  | [], _, _, _, h, _ => by simp at h
  | y :: l, 0, j, x, h, hj => by
    simp at h; subst h
    rw [List.flatMap_cons, Nat.zero_mul, Nat.zero_add, List.getElem?_append_left (by rw [hf]; exact hj)]
  | y :: l, i + 1, j, x, h, hj => by
    simp at h
    rw [List.flatMap_cons, List.getElem?_append_right (by rw [hf, Nat.succ_mul]; omega), hf]
    rw [show (i + 1) * sz + j - sz = i * sz + j by rw [Nat.succ_mul]; omega]
    exact flat_get f sz hf l i j x h hj
theorem flat_length {α : Type} (f : α → List Value) (sz : Nat) (hf : ∀ x, (f x).length = sz) (l : List α) : (l.flatMap f).length = l.length * sz := by
  induction l with
  | nil => simp
  | cons y l ih => rw [List.flatMap_cons, List.length_append, ih, hf, List.length_cons, Nat.succ_mul]; omega
theorem flat_ne {α : Type} (f : α → List Value) (sz : Nat) (hf : ∀ x, (f x).length = sz) (hs : 0 < sz) {l : List α} (hl : l ≠ []) : l.flatMap f ≠ [] := by
  intro q
  have := flat_length f sz hf l
  rw [q] at this
  have h2 := Nat.mul_pos (List.length_pos_iff.2 hl) hs
  simp only [List.length_nil] at this; omega

/-- The cells of one element of a slice. -/
theorem Sl.elem {α : Type} {w : World} {v : Value} {l : List α} {f : α → List Value} {sz : Nat} (hf : ∀ x, (f x).length = sz) (hs : 0 < sz) (h : Sl w v l.length (l.flatMap f)) (hl : l ≠ []) :
    ∃ b off cap, v = .slice (some ⟨b, off, none⟩) l.length cap ∧ ∀ i x, l[i]? = some x → ∀ j y, (f x)[j]? = some y → w.cell? ⟨b, off + (i * sz + j), none⟩ = some y := by
  obtain ⟨a, cap, rfl, h2⟩ := h
  obtain ⟨b, off, rfl, h3⟩ := h2 (flat_ne f sz hf hs hl)
  refine ⟨b, off, cap, rfl, fun i x hx j y hy => h3 _ y ?_⟩
  rw [flat_get f sz hf l i j x hx (by rw [← hf x]; exact (List.getElem?_eq_some_iff.1 hy).1)]
  exact hy

theorem sl_new (w : World) (l : List Value) (t : TypeId) (n cap : Nat) : Sl (w.alloc (.cells l.toArray t)) (.slice (some ⟨w.heap.size, 0, Option.none⟩) n cap) n l := by
  refine ⟨_, _, rfl, fun _ => ⟨_, 0, rfl, fun k x hx => ?_⟩⟩
  rw [Nat.zero_add]
  exact cell_of_heap (heap_alloc_new w _) (by simpa using hx)

theorem Cl.cells_length (c : Cl) : c.cells.length = 8 := rfl
theorem An.cells_length (c : An) : c.cells.length = 5 := rfl
theorem Vl.cells_length (c : Vl) : c.cells.length = 3 := rfl
end Bead
end Go.Proofs.Ytidnmanljdadaaa
