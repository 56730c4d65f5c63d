/- The contract of the reference's Play: for every script (of at most 2^40 calls) it returns the plain model's answers, and which are left open, if every call is permitted; else it says so. -/
import Derived.Test.YtidnmanljdadaaaSpec14
set_option linter.all false
namespace Go.Proofs.Ytidnmanljdadaaa
open Go.RowKit
namespace Bead
set_option maxRecDepth 100000

theorem Permitted.grow {most : Nat} {m : Md} {c : Cl} (h : Permitted most m c) : Permitted most m.grow c :=
  ⟨h.lo, h.hi, fun a b => ⟨(h.list a b).1, by have := (h.list a b).2.1; simp only [Md.grow]; omega, (h.list a b).2.2⟩, fun q => ⟨(h.other q).1, by have := (h.other q).2.1; simp only [Md.grow]; omega, (h.other q).2.2⟩,
   fun q => ⟨(h.elem q).1, by have := (h.elem q).2.1; simp only [Md.grow]; omega, (h.elem q).2.2⟩, fun q => ⟨(h.mark q).1, by have := (h.mark q).2.1; simp only [Md.grow]; omega, (h.mark q).2.2⟩, h.staleE, h.staleM, h.room, h.space⟩

theorem sopen_c {w : World} {B g : Nat} {m : Md} {v0 v1 v2 v3 : Value} {ls : Nat → Value} (h : SR w B g m v0 v1 v2 v3 ls) (hw : WF m) {c : Cl} (hp : Permitted 500 m c) (hlen : m.len ≤ 4611686018427387904) (hcnt : m.cnt ≤ 4611686018427387904) (hsz : ∀ l, (m.seq l).length ≤ 4611686018427387904) :
    Calls Try.prog 52 #[.pointer (some ⟨g, 0, none⟩), c.agg'] w fun r w' => r = .returned (.bool (m.opened c)) ∧ Below w.heap.size w w' := by
  obtain ⟨op, list, other, elem, mark, v⟩ := c
  by_cases h56 : op = 5 ∨ op = 6
  · obtain ⟨a, b, e, q⟩ := hp.mark (by simp only; omega)
    obtain ⟨a', b', c'⟩ := hp.list (by simp only; omega) (by simp only; omega)
    simp only at a b q a' b' c'
    obtain ⟨n, rfl⟩ := Int_nat a
    obtain ⟨l, rfl⟩ := Int_nat a'
    exact open_mark h hw h56 (by omega) (by omega) (by simpa using q) hlen (hsz l)
  by_cases h89 : op = 18 ∨ op = 19
  · obtain ⟨a, b, e, q⟩ := hp.elem (by simp only; omega)
    simp only at a b q
    obtain ⟨n, rfl⟩ := Int_nat a
    have hr : m.ret n = some e := by simpa using q
    exact open_elem h h89 (by omega) hr (hw.rlt n e hr).2 hlen hcnt
  · exact open_else w m (by simp only; omega) (by simp only; omega) (by simp only; omega) (by simp only; omega)

theorem ST.grown {W W' : World} {B g : Nat} {F : Nat → Prop} {m : Md} (h : ST W B g F m) {row : Option Nat} (hg : W.grownBy W' row) (hrow : ∀ k, row = some k → ¬ F k ∧ ∃ c t, W.heap[k]? = some (.cells c t (0, 0)) ∧ t ≠ 3) : ST W' B g F m := by
  obtain ⟨v0, v1, v2, v3, ls, hs, hf, hF⟩ := h
  refine ⟨v0, v1, v2, v3, ls, hs.of_blocks (fun k q => hg.block k (hs.lt' q) (fun r => ?_)), hf, fun k q => ⟨(hF k q).1, Nat.lt_of_lt_of_le (hF k q).2 hg.size⟩⟩
  obtain ⟨a, c, t, hc, ht⟩ := hrow k r.symm
  rcases q with q | ⟨i, hi, q⟩
  · exact a (hf k q)
  · obtain ⟨d, hd⟩ := (hs.ll i hi).kind k q
    rw [hc] at hd; simp at hd; exact ht hd.2

def bools (l : List Bool) : List Value := l.map Value.bool

structure PAt (w wr : World) (g j : Nat) (cs : List Cl) (ans opn : Value) : Prop where
  ok : okFrom 500 Md.init (cs.take j) = true
  st : ∃ F, ST wr w.heap.size g F (runFrom Md.init (cs.take j)) ∧ (∀ k, opn.ownBlock = some k → ¬ F k) ∧ ∀ k, ans.ownBlock = some k → ¬ F k
  rowA : wr.ownsRow w.heap.size 84 5 ans j ((ansFrom Md.init (cs.take j)).flatMap An.cells)
  rowO : wr.ownsRow w.heap.size 4 1 opn j (bools (openFrom Md.init (cs.take j)))
  below : Below w.heap.size w wr

theorem PAt.start (w : World) (cs : List Cl) : PAt w (w.alloc (.cells #[.slice none 0 0, .slice none 0 0, .slice none 0 0, .slice none 0 0] 104)) w.heap.size 0 cs (.slice none 0 0) (.slice none 0 0) := by
  refine ⟨rfl, ⟨fun k => k = w.heap.size, ⟨.slice none 0 0, .slice none 0 0, .slice none 0 0, .slice none 0 0, fun _ => .slice none 0 0, ⟨heap_alloc_new w _, World.ownsRow_nil _ _ _ _, World.ownsRow_nil _ _ _ _, World.ownsRow_nil _ _ _ _, World.ownsRow_nil _ _ _ _, fun i hi => by simp [Md.init, runFrom] at hi, fun i b hi => by simp [Md.init, runFrom] at hi, Nat.le_refl _⟩, ?_, ?_⟩, by simp [Value.ownBlock], by simp [Value.ownBlock]⟩, World.ownsRow_nil _ _ _ _, World.ownsRow_nil _ _ _ _, below1 w _⟩
  · rintro k (q | q | q | q | q)
    · exact q
    all_goals simp [Value.ownBlock] at q
  · rintro k rfl; simp

theorem own_keeps {w w' : World} {F : Nat → Prop} {B : Nat} {e : TypeId} {sz n : Nat} {v : Value} {xs : List Value} (h : w.ownsRow B e sz v n xs) (hk : Keeps F w w') (hF : ∀ k, v.ownBlock = some k → ¬ F k) : w'.ownsRow B e sz v n xs :=
  own_of_blocks h (fun k q => hk.block k (h.lt k q).2 (hF k q))
theorem own_below {w w' : World} {B : Nat} {e : TypeId} {sz n : Nat} {v : Value} {xs : List Value} (h : w.ownsRow B e sz v n xs) (hb : Below w.heap.size w w') : w'.ownsRow B e sz v n xs :=
  own_of_blocks h (fun k q => hb.block k (h.lt k q).2)
theorem own_grown {w w' : World} {B B' : Nat} {e e' : TypeId} {sz sz' n n' : Nat} {v v' : Value} {xs xs' : List Value} (h : w.ownsRow B e sz v n xs) (h' : w.ownsRow B' e' sz' v' n' xs') (he : e ≠ e') (hg : w.grownBy w' v'.ownBlock) : w'.ownsRow B e sz v n xs :=
  own_of_blocks h (fun k q => hg.block k (h.lt k q).2 (fun r => kind_ne h h' he q r.symm))
theorem own_lt {w : World} {B : Nat} {e : TypeId} {sz n : Nat} {v : Value} {xs : List Value} (h : w.ownsRow B e sz v n xs) : ∀ k, v.ownBlock = some k → k < w.heap.size := fun k q => (h.lt k q).2

/-- After the round's appends: what is there at W, where the answer is still to come. -/
structure SMid (w W : World) (g j : Nat) (cs : List Cl) (c : Cl) (N : Nat) (ans opn : Value) : Prop where
  st : ∃ F, ST W w.heap.size g F (runFrom Md.init (cs.take j)).grow ∧ (∀ k, opn.ownBlock = some k → ¬ F k) ∧ ∀ k, ans.ownBlock = some k → ¬ F k
  rowA : W.ownsRow w.heap.size 84 5 ans j ((ansFrom Md.init (cs.take j)).flatMap An.cells)
  rowO : W.ownsRow w.heap.size 4 1 opn (j + 1) (bools (openFrom Md.init (cs.take (j + 1))))
  box : W.heap[N]? = some (.cells c.arr 79 (0, 0))
  below : Below w.heap.size w W

theorem SMid.cell {w W : World} {g j : Nat} {cs : List Cl} {c : Cl} {N : Nat} {ans opn : Value} (h : SMid w W g j cs c N ans opn) {t : Nat} {v : Value} (hv : c.cells[t]? = some v) : W.cell? ⟨N, t, none⟩ = some v := cell_of_heap h.box (by rw [← Array.getElem?_toList]; exact hv)

/-- The three rows have grown and the answer's mark has been appended. -/
theorem PAt.mid {w wr w1 W9 w4 w5 : World} {g j N : Nat} {cs : List Cl} {c : Cl} {ans opn opn' : Value} {o : Obj} (h : PAt w wr g j cs ans opn) (hc : cs[j]? = some c) (hb1 : Below wr.heap.size wr w1) {F : Nat → Prop}
    (hFo : ∀ k, opn.ownBlock = some k → ¬ F k) (hFa : ∀ k, ans.ownBlock = some k → ¬ F k) (hFB : ∀ k, F k → w.heap.size ≤ k) (hFN : ¬ F N) (hbox : w1.heap[N]? = some (.cells c.arr 79 (0, 0))) (sp : SP w1 W9 w.heap.size g F (runFrom Md.init (cs.take j)).grow)
    (hb4 : Below W9.heap.size W9 w4) (hown : w5.ownsRow w.heap.size 4 1 opn' (j + 1) (bools (openFrom Md.init (cs.take j)) ++ [.bool ((runFrom Md.init (cs.take j)).grow.opened c)])) (hg : (w4.alloc o).grownBy w5 opn.ownBlock)
    (hn : ∀ k, opn'.ownBlock = some k → opn.ownBlock = some k ∨ (w4.alloc o).heap.size ≤ k) : SMid w w5 g j cs c N ans opn' := by
  obtain ⟨F9, st9, hF9, hk9⟩ := sp
  have b4 : Below W9.heap.size W9 (w4.alloc o) := hb4.alloc hb4.size o
  have oA1 := own_below h.rowA hb1
  have oO1 := own_below h.rowO hb1
  have oA9 := own_keeps oA1 hk9 hFa
  have oO9 := own_keeps oO1 hk9 hFo
  have oA4 := own_below oA9 b4
  have oO4 := own_below oO9 b4
  have nA : ∀ k, ans.ownBlock = some k → ¬ F9 k := fun k q r => by
    rcases hF9 k r with z | z
    · exact hFa k q z
    · have := (h.rowA.lt k q).2; have := hb1.size; omega
  have nO : ∀ k, opn.ownBlock = some k → ¬ F9 k := fun k q r => by
    rcases hF9 k r with z | z
    · exact hFo k q z
    · have := (h.rowO.lt k q).2; have := hb1.size; omega
  have st4 := st9.below b4
  refine ⟨⟨F9, st4.grown hg (fun k q => ⟨nO k q, ?_⟩), fun k q r => ?_, nA⟩, own_grown oA4 oO4 (by decide) hg, ?_, ?_, ?_⟩
  · obtain ⟨d, hd⟩ := own_kind oO4 k q; exact ⟨d, _, hd, by decide⟩
  · rcases hn k q with z | z
    · exact nO k z r
    · have := st9.lt k r; have := b4.size; omega
  · have e1 : cs.take (j + 1) = cs.take j ++ [c] := by
      have := List.getElem?_eq_some_iff.1 hc
      rw [List.take_succ_eq_append_getElem this.1, this.2]
    rw [e1, openFrom_append]
    simpa [bools, openFrom] using hown
  · have hb9 : W9.heap[N]? = some (.cells c.arr 79 (0, 0)) := by
      rw [hk9.block N (Array.getElem?_eq_some_iff.1 hbox).1 hFN]; exact hbox
    have hb5 : (w4.alloc o).heap[N]? = some (.cells c.arr 79 (0, 0)) := by rw [b4.block N (Array.getElem?_eq_some_iff.1 hb9).1]; exact hb9
    rw [hg.block N (Array.getElem?_eq_some_iff.1 hb5).1 (fun q => by obtain ⟨d, hd⟩ := own_kind oO4 N q.symm; rw [hb5] at hd; simp at hd)]
    exact hb5
  · have B1 : Below w.heap.size w w1 := h.below.trans (hb1.mono h.below.size)
    have B9 : Below w.heap.size w W9 := B1.trans (hk9.below (fun k hk _ q => by have := hFB k q; omega) B1.size)
    exact (B9.trans (b4.mono B9.size)).grown hg (by have := B9.size; have := b4.size; omega) (fun k q => (oO4.lt k q).1)

/-- After the answer has been appended. -/
theorem SMid.next {w W w6 w7 : World} {g j N : Nat} {cs : List Cl} {c : Cl} {ans ans' opn : Value} {o : Obj} (h : SMid w W g j cs c N ans opn) (hok : okFrom 500 Md.init (cs.take (j + 1)) = true) (hc : cs[j]? = some c) {F : Nat → Prop} (hF1 : ∀ k, opn.ownBlock = some k → ¬ F k) (hF2 : ∀ k, ans.ownBlock = some k → ¬ F k) (hFB : ∀ k, F k → w.heap.size ≤ k)
    (sp : SP W w6 w.heap.size g F ((runFrom Md.init (cs.take j)).step c).1) (hown : w7.ownsRow w.heap.size 84 5 ans' (j + 1) ((ansFrom Md.init (cs.take j)).flatMap An.cells ++ ((runFrom Md.init (cs.take j)).step c).2.cells)) (hg : (w6.alloc o).grownBy w7 ans.ownBlock)
    (hn : ∀ k, ans'.ownBlock = some k → ans.ownBlock = some k ∨ (w6.alloc o).heap.size ≤ k) : PAt w w7 g (j + 1) cs ans' opn := by
  obtain ⟨F6, st6, hF6, hk6⟩ := sp
  have e1 : cs.take (j + 1) = cs.take j ++ [c] := by
    have := List.getElem?_eq_some_iff.1 hc
    rw [List.take_succ_eq_append_getElem this.1, this.2]
  have oA := (own_keeps h.rowA hk6 hF2).alloc o
  have oO := (own_keeps h.rowO hk6 hF1).alloc o
  have nA : ∀ k, ans.ownBlock = some k → ¬ F6 k := fun k q r => by
    rcases hF6 k r with z | z
    · exact hF2 k q z
    · have := (h.rowA.lt k q).2; omega
  have nO : ∀ k, opn.ownBlock = some k → ¬ F6 k := fun k q r => by
    rcases hF6 k r with z | z
    · exact hF1 k q z
    · have := (h.rowO.lt k q).2; omega
  have st7 := (st6.alloc o).grown hg (fun k q => ⟨nA k q, by obtain ⟨d, hd⟩ := own_kind oA k q; exact ⟨d, _, hd, by decide⟩⟩)
  refine ⟨hok, ⟨F6, ?_, nO, fun k q r => ?_⟩, ?_, own_grown oO oA (by decide) hg, ?_⟩
  · rw [e1, runFrom_append]; exact st7
  · rcases hn k q with z | z
    · exact nA k z r
    · have := st6.lt k r; simp at z; omega
  · rw [e1, ansFrom_append, List.flatMap_append]
    simpa [ansFrom] using hown
  · have B6 : Below w.heap.size w w6 := h.below.trans (hk6.below (fun k hk _ q => by have := hFB k q; omega) h.below.size)
    exact (B6.alloc B6.size o).grown hg (by have := B6.size; simp; omega) (fun k q => (oA.lt k q).1)
end Bead
end Go.Proofs.Ytidnmanljdadaaa
