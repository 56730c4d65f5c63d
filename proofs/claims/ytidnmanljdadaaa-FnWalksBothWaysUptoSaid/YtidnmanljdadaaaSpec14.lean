/- The reference's Play: what its memory holds in a round. -/
import Derived.Test.YtidnmanljdadaaaSpec13
import Derived.Test.YtidnmanljdadaaaSpec5
import Derived.Test.YtidnmanljdadaaaPlay
set_option linter.all false
namespace Go.Proofs.Ytidnmanljdadaaa
open Go.RowKit
namespace Bead
set_option maxRecDepth 100000

/-- The model at block g, whose rows may have different lengths. -/
structure SQ (w : World) (B g : Nat) (m : Md) (n0 n1 n2 : Nat) (v0 v1 v2 v3 : Value) (ls : Nat → Value) : Prop where
  pc : w.heap[g]? = some (Obj.cells #[v0, v1, v2, v3] 104 (0, 0))
  r0 : w.ownsRow B 4 1 v0 n0 (tab n0 (rowB m))
  r1 : w.ownsRow B 27 1 v1 n1 (tab n1 ls)
  r2 : w.ownsRow B 3 1 v2 n2 (tab n2 (rowR m))
  r3 : w.ownsRow B 146 6 v3 m.cnt (erow m m.cnt)
  ll : ∀ i, i < m.len → IRow w (ls i) (m.seq i)
  dist : ∀ i b, i < m.len → (ls i).ownBlock = some b → v2.ownBlock ≠ some b
  base : B ≤ g
theorem SR.sq {w : World} {B g : Nat} {m : Md} {v0 v1 v2 v3 : Value} {ls : Nat → Value} (h : SR w B g m v0 v1 v2 v3 ls) : SQ w B g m m.len m.len m.len v0 v1 v2 v3 ls := ⟨h.pc, h.r0, h.r1, h.r2, h.r3, h.ll, h.dist, h.base⟩

section
variable {w W W1 W2 : World} {B g n0 n1 n2 : Nat} {F : Nat → Prop} {m : Md} {v0 v1 v2 v3 x : Value} {ls : Nat → Value}
theorem SQ.lt (h : SQ w B g m n0 n1 n2 v0 v1 v2 v3 ls) {k : Nat} (hk : Foot g v0 v1 v2 v3 k) : B ≤ k ∧ k < w.heap.size := by
  rcases hk with rfl | q | q | q | q
  · exact ⟨h.base, (Array.getElem?_eq_some_iff.1 h.pc).1⟩
  · exact h.r0.lt k q
  · exact h.r1.lt k q
  · exact h.r2.lt k q
  · exact h.r3.lt k q
theorem SQ.below (h : SQ w B g m n0 n1 n2 v0 v1 v2 v3 ls) (hb : Below w.heap.size w W) : SQ W B g m n0 n1 n2 v0 v1 v2 v3 ls :=
  ⟨(hb.block g (h.lt (.inl rfl)).2).trans h.pc, own_of_blocks h.r0 (fun k q => hb.block k (h.r0.lt k q).2), own_of_blocks h.r1 (fun k q => hb.block k (h.r1.lt k q).2), own_of_blocks h.r2 (fun k q => hb.block k (h.r2.lt k q).2),
   own_of_blocks h.r3 (fun k q => hb.block k (h.r3.lt k q).2), fun i hi => (h.ll i hi).of_blocks (fun k q => hb.block k ((h.ll i hi).lt k q)), h.dist, h.base⟩
theorem SQ.c (h : SQ w B g m n0 n1 n2 v0 v1 v2 v3 ls) : w.cell? ⟨g, 0, none⟩ = some v0 ∧ w.cell? ⟨g, 1, none⟩ = some v1 ∧ w.cell? ⟨g, 2, none⟩ = some v2 ∧ ∀ o, w.frozen? ⟨g, o, none⟩ = false :=
  ⟨cell_of_heap h.pc rfl, cell_of_heap h.pc rfl, cell_of_heap h.pc rfl, fun _ => free_of_heap h.pc⟩

/-- What an append to a row of the model and the store of its slice keep. -/
theorem app_keep (h1 : SQ W1 B g m n0 n1 n2 v0 v1 v2 v3 ls) {row : Option Nat} (hg : W1.grownBy W2 row) (o : Nat) (x : Value) {k : Nat} (hk : k < W1.heap.size) (hr : ¬ row = some k) (hgk : ¬ k = g) : (W2.setCell ⟨g, o, none⟩ x).heap[k]? = W1.heap[k]? := by
  rw [heap_set_other (a := ⟨g, o, none⟩) hgk, hg.block k hk (fun q => hr q.symm)]
theorem app_pc (h1 : SQ W1 B g m n0 n1 n2 v0 v1 v2 v3 ls) {row : Option Nat} {e : TypeId} {sz n : Nat} {ys : List Value} {y : Value} (ho : W1.ownsRow B e sz y n ys) (he : e ≠ 104) (hg : W1.grownBy W2 y.ownBlock) : W2.heap[g]? = some (Obj.cells #[v0, v1, v2, v3] 104 (0, 0)) := by
  rw [hg.block g (h1.lt (.inl rfl)).2]
  · exact h1.pc
  · intro q
    obtain ⟨d, hd⟩ := own_kind ho g q.symm; rw [h1.pc] at hd; simp at hd; exact he hd.2.symm
theorem own_set (hpc : W2.heap[g]? = some (Obj.cells #[v0, v1, v2, v3] 104 (0, 0))) {e : TypeId} {sz n : Nat} {ys : List Value} {y z : Value} (ho : W2.ownsRow B e sz y n ys) (he : e ≠ 104) (o : Nat) : (W2.setCell ⟨g, o, none⟩ z).ownsRow B e sz y n ys := by
  refine own_of_blocks ho (fun k q => heap_set_other ?_)
  rintro rfl
  obtain ⟨d, hd⟩ := own_kind ho _ q
  rw [hpc] at hd; simp at hd; exact he hd.2.symm
theorem kind_ne {e1 e2 : TypeId} {B1 B2 s1 s2 n1 n2 : Nat} {y z : Value} {ys zs : List Value} (h1 : w.ownsRow B1 e1 s1 y n1 ys) (h2 : w.ownsRow B2 e2 s2 z n2 zs) (he : e1 ≠ e2) {k : Nat} (hk : y.ownBlock = some k) : ¬ z.ownBlock = some k := by
  intro q
  obtain ⟨d, hd⟩ := own_kind h1 k hk
  obtain ⟨d', hd'⟩ := own_kind h2 k q
  rw [hd] at hd'; simp at hd'; exact he hd'.2
theorem kind_g (h : SQ w B g m n0 n1 n2 v0 v1 v2 v3 ls) {e1 : TypeId} {B1 s1 k1 : Nat} {y : Value} {ys : List Value} (h1 : w.ownsRow B1 e1 s1 y k1 ys) (he : e1 ≠ 104) {k : Nat} (hk : y.ownBlock = some k) : ¬ k = g := by
  rintro rfl
  obtain ⟨d, hd⟩ := own_kind h1 _ hk
  rw [h.pc] at hd; simp at hd; exact he hd.2.symm
theorem irow_kind {s : List Nat} (h : IRow w x s) {e1 : TypeId} {B1 s1 k1 : Nat} {y : Value} {ys : List Value} (h1 : w.ownsRow B1 e1 s1 y k1 ys) (he : e1 ≠ 3) {k : Nat} (hk : x.ownBlock = some k) : ¬ y.ownBlock = some k := by
  intro q
  obtain ⟨d, hd⟩ := own_kind h1 _ q
  obtain ⟨c, hc⟩ := h.kind k hk
  rw [hd] at hc; simp at hc; exact he hc.2
theorem irow_g (h : SQ w B g m n0 n1 n2 v0 v1 v2 v3 ls) {s : List Nat} (hi : IRow w x s) {k : Nat} (hk : x.ownBlock = some k) : ¬ k = g := by
  rintro rfl
  obtain ⟨c, hc⟩ := hi.kind _ hk
  rw [h.pc] at hc; simp at hc

theorem SQ.app0 (h1 : SQ W1 B g m n0 n1 n2 v0 v1 v2 v3 ls) (hown : W2.ownsRow B 4 1 x (n0 + 1) (tab n0 (rowB m) ++ [.bool false])) (hg : W1.grownBy W2 v0.ownBlock) (hf : m.isL n0 = false) : SQ (W2.setCell ⟨g, 0, none⟩ x) B g m (n0 + 1) n1 n2 x v1 v2 v3 ls := by
  have hpc := app_pc h1 (row := none) h1.r0 (by decide) hg
  refine ⟨by rw [heap_set hpc]; rfl, ?_, own_of_blocks h1.r1 (fun k q => app_keep h1 hg 0 x (h1.r1.lt k q).2 (kind_ne h1.r1 h1.r0 (by decide) q) (kind_g h1 h1.r1 (by decide) q)), own_of_blocks h1.r2 (fun k q => app_keep h1 hg 0 x (h1.r2.lt k q).2 (kind_ne h1.r2 h1.r0 (by decide) q) (kind_g h1 h1.r2 (by decide) q)),
    own_of_blocks h1.r3 (fun k q => app_keep h1 hg 0 x (h1.r3.lt k q).2 (kind_ne h1.r3 h1.r0 (by decide) q) (kind_g h1 h1.r3 (by decide) q)), fun i hi => (h1.ll i hi).of_blocks (fun k q => app_keep h1 hg 0 x ((h1.ll i hi).lt k q) (irow_kind (h1.ll i hi) h1.r0 (by decide) q) (irow_g h1 (h1.ll i hi) q)), h1.dist, h1.base⟩
  rw [tab_snoc]
  have : rowB m n0 = .bool false := by simp [rowB, hf]
  rw [this]
  exact own_set hpc hown (by decide) 0
theorem SQ.app1 (h1 : SQ W1 B g m n0 n1 n2 v0 v1 v2 v3 ls) (hown : W2.ownsRow B 27 1 x (n1 + 1) (tab n1 ls ++ [.slice none 0 0])) (hg : W1.grownBy W2 v1.ownBlock) (hn : m.len ≤ n1) : SQ (W2.setCell ⟨g, 1, none⟩ x) B g m n0 (n1 + 1) n2 v0 x v2 v3 (upd ls n1 (.slice none 0 0)) := by
  have hpc := app_pc h1 (row := none) h1.r1 (by decide) hg
  refine ⟨by rw [heap_set hpc]; rfl, own_of_blocks h1.r0 (fun k q => app_keep h1 hg 1 x (h1.r0.lt k q).2 (kind_ne h1.r0 h1.r1 (by decide) q) (kind_g h1 h1.r0 (by decide) q)), ?_, own_of_blocks h1.r2 (fun k q => app_keep h1 hg 1 x (h1.r2.lt k q).2 (kind_ne h1.r2 h1.r1 (by decide) q) (kind_g h1 h1.r2 (by decide) q)),
    own_of_blocks h1.r3 (fun k q => app_keep h1 hg 1 x (h1.r3.lt k q).2 (kind_ne h1.r3 h1.r1 (by decide) q) (kind_g h1 h1.r3 (by decide) q)), fun i hi => ?_, fun i b hi => ?_, h1.base⟩
  · rw [tab_snoc, upd_same, tab_congr (f' := ls) (fun i hi => upd_other _ _ (by omega))]
    exact own_set hpc hown (by decide) 1
  · rw [upd_other _ _ (by omega)]
    exact (h1.ll i hi).of_blocks (fun k q => app_keep h1 hg 1 x ((h1.ll i hi).lt k q) (irow_kind (h1.ll i hi) h1.r1 (by decide) q) (irow_g h1 (h1.ll i hi) q))
  · rw [upd_other _ _ (by omega)]; exact h1.dist i b hi
theorem SQ.app2 (h1 : SQ W1 B g m n0 n1 n2 v0 v1 v2 v3 ls) (hown : W2.ownsRow B 3 1 x (n2 + 1) (tab n2 (rowR m) ++ [.int .i64 (-1)])) (hg : W1.grownBy W2 v2.ownBlock) (hn : ∀ k, x.ownBlock = some k → v2.ownBlock = some k ∨ W1.heap.size ≤ k) (hf : m.ret n2 = none) : SQ (W2.setCell ⟨g, 2, none⟩ x) B g m n0 n1 (n2 + 1) v0 v1 x v3 ls := by
  have hpc := app_pc h1 (row := none) h1.r2 (by decide) hg
  refine ⟨by rw [heap_set hpc]; rfl, own_of_blocks h1.r0 (fun k q => app_keep h1 hg 2 x (h1.r0.lt k q).2 (kind_ne h1.r0 h1.r2 (by decide) q) (kind_g h1 h1.r0 (by decide) q)), own_of_blocks h1.r1 (fun k q => app_keep h1 hg 2 x (h1.r1.lt k q).2 (kind_ne h1.r1 h1.r2 (by decide) q) (kind_g h1 h1.r1 (by decide) q)), ?_,
    own_of_blocks h1.r3 (fun k q => app_keep h1 hg 2 x (h1.r3.lt k q).2 (kind_ne h1.r3 h1.r2 (by decide) q) (kind_g h1 h1.r3 (by decide) q)), fun i hi => (h1.ll i hi).of_blocks (fun k q => app_keep h1 hg 2 x ((h1.ll i hi).lt k q) (h1.dist i k hi q) (irow_g h1 (h1.ll i hi) q)), fun i b hi q r => ?_, h1.base⟩
  · rw [tab_snoc]
    have : rowR m n2 = .int .i64 (-1) := by simp [rowR, hf, optI]
    rw [this]
    exact own_set hpc hown (by decide) 2
  · rcases hn b r with z | z
    · exact h1.dist i b hi q z
    · have := (h1.ll i hi).lt b q; omega
/-- .. and what is told of it outside. -/
theorem keep_next {y : Value} {row : Option Nat} {o : Nat} (hk : Keeps F w W) (hFg : F g) (hb : Below W.heap.size W W1) (hg : W1.grownBy W2 row) (hrow : ∀ k, row = some k → F k ∨ w.heap.size ≤ k) : Keeps F w (W2.setCell ⟨g, o, none⟩ y) := by
  have k1 : Keeps F w W1 := ⟨hb.os.trans hk.os, hb.tape.trans hk.tape, hb.output.trans hk.output, Nat.le_trans hk.size hb.size, fun k q r => (hb.block k (Nat.lt_of_lt_of_le q hk.size)).trans (hk.block k q r)⟩
  refine (k1.grown hg (fun k q r => ?_)).setCell (p := ⟨g, o, none⟩) (fun _ => hFg) _
  rcases hrow k q with z | z
  · exact z
  · omega
theorem foot0 (hF : ∀ k, Foot g v0 v1 v2 v3 k → F k ∨ w.heap.size ≤ k) (hn : ∀ k, x.ownBlock = some k → v0.ownBlock = some k ∨ W1.heap.size ≤ k) (hs : w.heap.size ≤ W1.heap.size) : ∀ k, Foot g x v1 v2 v3 k → F k ∨ w.heap.size ≤ k := by
  rintro k (q | q | q | q | q)
  · exact hF k (.inl q)
  · rcases hn k q with r | r
    · exact hF k (.inr (.inl r))
    · exact .inr (Nat.le_trans hs r)
  · exact hF k (.inr (.inr (.inl q)))
  · exact hF k (.inr (.inr (.inr (.inl q))))
  · exact hF k (.inr (.inr (.inr (.inr q))))
theorem foot1 (hF : ∀ k, Foot g v0 v1 v2 v3 k → F k ∨ w.heap.size ≤ k) (hn : ∀ k, x.ownBlock = some k → v1.ownBlock = some k ∨ W1.heap.size ≤ k) (hs : w.heap.size ≤ W1.heap.size) : ∀ k, Foot g v0 x v2 v3 k → F k ∨ w.heap.size ≤ k := by
  rintro k (q | q | q | q | q)
  · exact hF k (.inl q)
  · exact hF k (.inr (.inl q))
  · rcases hn k q with r | r
    · exact hF k (.inr (.inr (.inl r)))
    · exact .inr (Nat.le_trans hs r)
  · exact hF k (.inr (.inr (.inr (.inl q))))
  · exact hF k (.inr (.inr (.inr (.inr q))))
theorem foot2 (hF : ∀ k, Foot g v0 v1 v2 v3 k → F k ∨ w.heap.size ≤ k) (hn : ∀ k, x.ownBlock = some k → v2.ownBlock = some k ∨ W1.heap.size ≤ k) (hs : w.heap.size ≤ W1.heap.size) : ∀ k, Foot g v0 v1 x v3 k → F k ∨ w.heap.size ≤ k := by
  rintro k (q | q | q | q | q)
  · exact hF k (.inl q)
  · exact hF k (.inr (.inl q))
  · exact hF k (.inr (.inr (.inl q)))
  · rcases hn k q with r | r
    · exact hF k (.inr (.inr (.inr (.inl r))))
    · exact .inr (Nat.le_trans hs r)
  · exact hF k (.inr (.inr (.inr (.inr q))))
/-- One call more. -/
theorem SQ.fin (hw : WF m) (hs : SQ W B g m (m.len + 1) (m.len + 1) (m.len + 1) v0 v1 v2 v3 ls) (hls : ls m.len = .slice none 0 0) (hF : ∀ k, Foot g v0 v1 v2 v3 k → F k ∨ w.heap.size ≤ k) (hk : Keeps F w W) : SP w W B g F m.grow := by
  have hL : m.isL m.len = false := by
    cases q : m.isL m.len with
    | false => rfl
    | true => have := hw.isl _ q; omega
  have hr : SR W B g m.grow v0 v1 v2 v3 ls := by
    refine ⟨hs.pc, hs.r0, hs.r1, hs.r2, hs.r3, fun i hi => ?_, fun i b hi => ?_, hs.base⟩
    · by_cases q : i = m.len
      · subst q; rw [hls]; exact .inl ⟨rfl, hw.emp _ hL⟩
      · exact hs.ll i (by have : i < m.len + 1 := hi; omega)
    · by_cases q : i = m.len
      · subst q; rw [hls]; simp [Value.ownBlock]
      · exact hs.dist i b (by have : i < m.len + 1 := hi; omega)
  exact ⟨Foot g v0 v1 v2 v3, ⟨v0, v1, v2, v3, ls, hr, fun _ q => q, fun k q => hr.lt q⟩, hF, hk⟩
end
end Bead
end Go.Proofs.Ytidnmanljdadaaa
