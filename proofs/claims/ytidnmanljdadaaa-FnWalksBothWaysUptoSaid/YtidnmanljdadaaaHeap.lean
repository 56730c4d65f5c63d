/- How lists and elements of container/list lie in memory, and what stores into their cells do. Lemmas on worlds; no code is walked here. -/
import Derived.Test.YtidnmanljdadaaaRing
set_option linter.all false
namespace Go.Proofs.Ytidnmanljdadaaa
open Go.RowKit
namespace Bead

/-- A call or a step has left every block outside of S as it was. -/
structure Keeps (S : Nat → Prop) (w w' : World) : Prop where
  os : w'.os = w.os
  tape : w'.tape = w.tape
  output : w'.output = w.output
  size : w.heap.size ≤ w'.heap.size
  block : ∀ k, k < w.heap.size → ¬ S k → w'.heap[k]? = w.heap[k]?

section
variable {S S' : Nat → Prop} {w w' w'' : World}
theorem Keeps.refl (S : Nat → Prop) (w : World) : Keeps S w w := ⟨rfl, rfl, rfl, Nat.le_refl _, fun _ _ _ => rfl⟩
theorem Keeps.trans (h : Keeps S w w') (k : Keeps S w' w'') : Keeps S w w'' :=
  ⟨k.os.trans h.os, k.tape.trans h.tape, k.output.trans h.output, Nat.le_trans h.size k.size, fun i hi hS => (k.block i (Nat.lt_of_lt_of_le hi h.size) hS).trans (h.block i hi hS)⟩
theorem Keeps.mono (h : Keeps S w w') (hs : ∀ k, k < w.heap.size → S k → S' k) : Keeps S' w w' := ⟨h.os, h.tape, h.output, h.size, fun k hk hS => h.block k hk (fun q => hS (hs k hk q))⟩
/-- What comes later may touch all that was made in between. -/
theorem Keeps.then (h : Keeps S w w') (k : Keeps S' w' w'') (hs : ∀ i, i < w.heap.size → S' i → S i) : Keeps S w w'' :=
  ⟨k.os.trans h.os, k.tape.trans h.tape, k.output.trans h.output, Nat.le_trans h.size k.size, fun i hi hS => (k.block i (Nat.lt_of_lt_of_le hi h.size) (fun q => hS (hs i hi q))).trans (h.block i hi hS)⟩
theorem Keeps.drew (h : Keeps S w w') : Keeps S w w'.drew := ⟨h.os, h.tape, h.output, h.size, h.block⟩
theorem Keeps.alloc (h : Keeps S w w') (o : Obj) : Keeps S w (w'.alloc o) :=
  ⟨h.os, h.tape, h.output, by simp; have := h.size; omega, fun k hk hS => (Below.heap_alloc _ _ _ (by have := h.size; omega)).trans (h.block k hk hS)⟩
theorem Keeps.setCell (h : Keeps S w w') {p : Addr} (hp : p.block < w.heap.size → S p.block) (u : Value) : Keeps S w (w'.setCell p u) :=
  ⟨h.os, h.tape, h.output, by simp [World.setCell]; exact h.size, fun k hk hS => (Below.heap_setCell _ _ _ _ (fun e => by subst e; exact hS (hp hk))).trans (h.block k hk hS)⟩
theorem Keeps.grown {row : Option Nat} (h : Keeps S w w') (hg : w'.grownBy w'' row) (hr : ∀ k, row = some k → k < w.heap.size → S k) : Keeps S w w'' :=
  ⟨hg.os.trans h.os, hg.tape.trans h.tape, hg.output.trans h.output, Nat.le_trans h.size hg.size, fun k hk hS => (hg.block k (Nat.lt_of_lt_of_le hk h.size) (fun e => hS (hr k e.symm hk))).trans (h.block k hk hS)⟩
theorem Keeps.below {B : Nat} (h : Keeps S w w') (hB : ∀ k, k < B → k < w.heap.size → ¬ S k) (hsz : B ≤ w.heap.size) : Below B w w' :=
  ⟨h.os, h.tape, h.output, h.size, fun k hk => h.block k (by omega) (hB k hk (by omega))⟩
theorem Keeps.of_below {B : Nat} (h : Below B w w') : Keeps (fun k => B ≤ k) w w' := ⟨h.os, h.tape, h.output, h.size, fun k _ hS => h.block k (by omega)⟩
theorem Keeps.cell (h : Keeps S w w') {p : Addr} {v : Value} (hc : w.cell? p = some v) (hp : ¬ S p.block) : w'.cell? p = some v :=
  (World.cell?_of_block (h.block p.block (World.block_lt_of_cell? w p hc) hp)).trans hc
end

/-- A pointer to the head of a block. -/
def pt (x : Option Nat) : Value := .pointer (x.map fun b => ⟨b, 0, none⟩)
theorem pt_none : pt none = .pointer none := rfl
theorem pt_some (b : Nat) : pt (some b) = .pointer (some ⟨b, 0, none⟩) := rfl

structure Heap (w : World) (L E : Nat → Prop) (nx pv ow : Nat → Option Nat) (vl : Nat → Value) (ln : Nat → Int) : Prop where
  l : ∀ b, L b → w.heap[b]? = some (.cells #[pt (nx b), pt (pv b), .pointer none, .nilIface, .int .i64 (ln b)] 123 (0, 0))
  e : ∀ b, E b → w.heap[b]? = some (.cells #[pt (nx b), pt (pv b), pt (ow b), vl b] 121 (0, 0))

theorem heap_set {w : World} {b o : Nat} {v : Value} {c : Array Value} {t : TypeId} (h : w.heap[b]? = some (.cells c t (0, 0))) : (w.setCell ⟨b, o, none⟩ v).heap[b]? = some (.cells (c.setIfInBounds o v) t (0, 0)) := by
  simp [World.setCell, Array.getElem?_modify, h]
theorem heap_set_other {w : World} {a : Addr} {k : Nat} {v : Value} (h : ¬ k = a.block) : (w.setCell a v).heap[k]? = w.heap[k]? := Below.heap_setCell _ _ _ _ h

theorem cell_of_heap {w : World} {b o : Nat} {v : Value} {c : Array Value} {t : TypeId} {f : Nat × Nat} (h : w.heap[b]? = some (.cells c t f)) (hc : c[o]? = some v) : w.cell? ⟨b, o, none⟩ = some v := by
  simp [World.cell?, h, hc]
theorem free_of_heap {w : World} {b o : Nat} {c : Array Value} {t : TypeId} (h : w.heap[b]? = some (.cells c t (0, 0))) : w.frozen? ⟨b, o, none⟩ = false := by
  simp [World.frozen?, h]

section
variable {w : World} {L E : Nat → Prop} {nx pv ow : Nat → Option Nat} {vl : Nat → Value} {ln : Nat → Int} {b : Nat}
theorem Heap.nxc (h : Heap w L E nx pv ow vl ln) (hb : L b ∨ E b) : w.cell? ⟨b, 0, none⟩ = some (pt (nx b)) := by
  rcases hb with hb | hb
  · exact cell_of_heap (h.l b hb) rfl
  · exact cell_of_heap (h.e b hb) rfl
theorem Heap.pvc (h : Heap w L E nx pv ow vl ln) (hb : L b ∨ E b) : w.cell? ⟨b, 1, none⟩ = some (pt (pv b)) := by
  rcases hb with hb | hb
  · exact cell_of_heap (h.l b hb) rfl
  · exact cell_of_heap (h.e b hb) rfl
theorem Heap.owc (h : Heap w L E nx pv ow vl ln) (hb : E b) : w.cell? ⟨b, 2, none⟩ = some (pt (ow b)) := cell_of_heap (h.e b hb) rfl
theorem Heap.vlc (h : Heap w L E nx pv ow vl ln) (hb : E b) : w.cell? ⟨b, 3, none⟩ = some (vl b) := cell_of_heap (h.e b hb) rfl
theorem Heap.lnc (h : Heap w L E nx pv ow vl ln) (hb : L b) : w.cell? ⟨b, 4, none⟩ = some (.int .i64 (ln b)) := cell_of_heap (h.l b hb) rfl
theorem Heap.free (h : Heap w L E nx pv ow vl ln) (hb : L b ∨ E b) (o : Nat) : w.frozen? ⟨b, o, none⟩ = false := by
  rcases hb with hb | hb
  · exact free_of_heap (h.l b hb)
  · exact free_of_heap (h.e b hb)
theorem Heap.lt (h : Heap w L E nx pv ow vl ln) (hb : L b ∨ E b) : b < w.heap.size := World.block_lt_of_cell? w ⟨b, 0, none⟩ (h.nxc hb)
theorem Heap.dis (h : Heap w L E nx pv ow vl ln) (hl : L b) (he : E b) : False := by
  have := (h.l b hl).symm.trans (h.e b he)
  simp at this
theorem Heap.drew (h : Heap w L E nx pv ow vl ln) : Heap w.drew L E nx pv ow vl ln := ⟨h.l, h.e⟩
theorem Heap.of_blocks {w' : World} (h : Heap w L E nx pv ow vl ln) (hk : ∀ k, L k ∨ E k → w'.heap[k]? = w.heap[k]?) : Heap w' L E nx pv ow vl ln :=
  ⟨fun b hb => (hk b (.inl hb)).trans (h.l b hb), fun b hb => (hk b (.inr hb)).trans (h.e b hb)⟩
theorem Heap.keeps {w' : World} {S : Nat → Prop} (h : Heap w L E nx pv ow vl ln) (hk : Keeps S w w') (hS : ∀ k, L k ∨ E k → ¬ S k) : Heap w' L E nx pv ow vl ln :=
  h.of_blocks fun k hb => hk.block k (h.lt hb) (hS k hb)
theorem Heap.alloc (h : Heap w L E nx pv ow vl ln) (o : Obj) : Heap (w.alloc o) L E nx pv ow vl ln :=
  h.of_blocks fun _ hb => Below.heap_alloc _ _ _ (h.lt hb)

theorem Heap.setNx (h : Heap w L E nx pv ow vl ln) (hb : L b ∨ E b) (x : Option Nat) : Heap (w.setCell ⟨b, 0, none⟩ (pt x)) L E (upd nx b x) pv ow vl ln := by
  refine ⟨fun k hk => ?_, fun k hk => ?_⟩
  · by_cases e : k = b
    · subst e; rw [heap_set (h.l k hk), upd_same]; rfl
    · rw [heap_set_other e, h.l k hk, upd_other _ _ e]
  · by_cases e : k = b
    · subst e; rw [heap_set (h.e k hk), upd_same]; rfl
    · rw [heap_set_other e, h.e k hk, upd_other _ _ e]
theorem Heap.setPv (h : Heap w L E nx pv ow vl ln) (hb : L b ∨ E b) (x : Option Nat) : Heap (w.setCell ⟨b, 1, none⟩ (pt x)) L E nx (upd pv b x) ow vl ln := by
  refine ⟨fun k hk => ?_, fun k hk => ?_⟩
  · by_cases e : k = b
    · subst e; rw [heap_set (h.l k hk), upd_same]; rfl
    · rw [heap_set_other e, h.l k hk, upd_other _ _ e]
  · by_cases e : k = b
    · subst e; rw [heap_set (h.e k hk), upd_same]; rfl
    · rw [heap_set_other e, h.e k hk, upd_other _ _ e]
theorem Heap.setOw (h : Heap w L E nx pv ow vl ln) (hb : E b) (x : Option Nat) : Heap (w.setCell ⟨b, 2, none⟩ (pt x)) L E nx pv (upd ow b x) vl ln := by
  refine ⟨fun k hk => ?_, fun k hk => ?_⟩
  · by_cases e : k = b
    · subst e; exact (h.dis hk hb).elim
    · rw [heap_set_other e, h.l k hk]
  · by_cases e : k = b
    · subst e; rw [heap_set (h.e k hk), upd_same]; rfl
    · rw [heap_set_other e, h.e k hk, upd_other _ _ e]
theorem Heap.setVl (h : Heap w L E nx pv ow vl ln) (hb : E b) (x : Value) : Heap (w.setCell ⟨b, 3, none⟩ x) L E nx pv ow (upd vl b x) ln := by
  refine ⟨fun k hk => ?_, fun k hk => ?_⟩
  · by_cases e : k = b
    · subst e; exact (h.dis hk hb).elim
    · rw [heap_set_other e, h.l k hk]
  · by_cases e : k = b
    · subst e; rw [heap_set (h.e k hk), upd_same]; rfl
    · rw [heap_set_other e, h.e k hk, upd_other _ _ e]
theorem Heap.setLn (h : Heap w L E nx pv ow vl ln) (hb : L b) (x : Int) : Heap (w.setCell ⟨b, 4, none⟩ (.int .i64 x)) L E nx pv ow vl (upd ln b x) := by
  refine ⟨fun k hk => ?_, fun k hk => ?_⟩
  · by_cases e : k = b
    · subst e; rw [heap_set (h.l k hk), upd_same]; rfl
    · rw [heap_set_other e, h.l k hk, upd_other _ _ e]
  · by_cases e : k = b
    · subst e; exact (h.dis hb hk).elim
    · rw [heap_set_other e, h.e k hk]
/-- A new element, in no list. -/
theorem Heap.newElem (h : Heap w L E nx pv ow vl ln) (v : Value) :
    Heap (w.alloc (.cells #[.pointer none, .pointer none, .pointer none, v] 121)) L (fun k => E k ∨ k = w.heap.size) (upd nx w.heap.size none) (upd pv w.heap.size none) (upd ow w.heap.size none) (upd vl w.heap.size v) ln := by
  have hne : ∀ k, L k ∨ E k → ¬ k = w.heap.size := fun k hk e => by have := h.lt hk; omega
  refine ⟨fun k hk => ?_, fun k hk => ?_⟩
  · have e := hne k (.inl hk)
    rw [Below.heap_alloc _ _ _ (h.lt (.inl hk)), h.l k hk, upd_other _ _ e, upd_other _ _ e]
  · rcases hk with hk | hk
    · have e := hne k (.inr hk)
      rw [Below.heap_alloc _ _ _ (h.lt (.inr hk)), h.e k hk, upd_other _ _ e, upd_other _ _ e, upd_other _ _ e, upd_other _ _ e]
    · subst hk; rw [heap_alloc_new, upd_same, upd_same, upd_same, upd_same]; rfl
/-- A new list: the zero value. -/
theorem Heap.newList (h : Heap w L E nx pv ow vl ln) :
    Heap (w.alloc (.cells #[.pointer none, .pointer none, .pointer none, .nilIface, .int .i64 0] 123)) (fun k => L k ∨ k = w.heap.size) E (upd nx w.heap.size none) (upd pv w.heap.size none) ow vl (upd ln w.heap.size 0) := by
  have hne : ∀ k, L k ∨ E k → ¬ k = w.heap.size := fun k hk e => by have := h.lt hk; omega
  refine ⟨fun k hk => ?_, fun k hk => ?_⟩
  · rcases hk with hk | hk
    · have e := hne k (.inl hk)
      rw [Below.heap_alloc _ _ _ (h.lt (.inl hk)), h.l k hk, upd_other _ _ e, upd_other _ _ e, upd_other _ _ e]
    · subst hk; rw [heap_alloc_new, upd_same, upd_same, upd_same]; rfl
  · have e := hne k (.inr hk)
    rw [Below.heap_alloc _ _ _ (h.lt (.inr hk)), h.e k hk, upd_other _ _ e, upd_other _ _ e]
end

/-- Lists and elements by their blocks: which blocks are lists, which are elements, the sequences, the list that an element names, the values. -/
structure BM where
  L : Nat → Prop
  E : Nat → Prop
  sq : Nat → List Nat
  ow : Nat → Option Nat
  vl : Nat → Value

structure Good (m : BM) (nx pv : Nat → Option Nat) : Prop where
  rg : ∀ b, m.L b → (nx b = none ∧ pv b = none ∧ m.sq b = []) ∨ ring nx pv b (m.sq b)
  nodup : ∀ b, m.L b → (m.sq b).Nodup
  own : ∀ b e, m.L b → e ∈ m.sq b → m.E e ∧ m.ow e = some b
  loose : ∀ e, m.E e → m.ow e = none → nx e = none ∧ pv e = none
  dis : ∀ b, m.L b → ¬ m.E b

def lnOf (m : BM) (b : Nat) : Int := ((m.sq b).length : Int)

def BRep (w : World) (m : BM) : Prop := ∃ nx pv, Heap w m.L m.E nx pv m.ow m.vl (lnOf m) ∧ Good m nx pv
/-- .. and the list l has been initialized. -/
def BRepI (w : World) (m : BM) (l : Nat) : Prop := ∃ nx pv, Heap w m.L m.E nx pv m.ow m.vl (lnOf m) ∧ Good m nx pv ∧ ring nx pv l (m.sq l)
theorem BRepI.rep {w : World} {m : BM} {l : Nat} (h : BRepI w m l) : BRep w m := by obtain ⟨nx, pv, a, b, _⟩ := h; exact ⟨nx, pv, a, b⟩

def BM.node (m : BM) (k : Nat) : Prop := m.L k ∨ m.E k

section
variable {w w' : World} {m : BM}
theorem BRep.keeps {S : Nat → Prop} (h : BRep w m) (hk : Keeps S w w') (hS : ∀ k, m.node k → ¬ S k) : BRep w' m := by
  obtain ⟨nx, pv, a, b⟩ := h
  exact ⟨nx, pv, a.keeps hk hS, b⟩
theorem BRep.drew (h : BRep w m) : BRep w.drew m := by obtain ⟨nx, pv, a, b⟩ := h; exact ⟨nx, pv, a.drew, b⟩
theorem BRep.alloc (h : BRep w m) (o : Obj) : BRep (w.alloc o) m := by obtain ⟨nx, pv, a, b⟩ := h; exact ⟨nx, pv, a.alloc o, b⟩
theorem BRep.lt (h : BRep w m) {k : Nat} (hk : m.node k) : k < w.heap.size := by obtain ⟨nx, pv, a, _⟩ := h; exact a.lt hk
end

section
variable {m : BM} {nx pv : Nat → Option Nat}
theorem Good.root_notin (g : Good m nx pv) {b c : Nat} (hb : m.L b) (hc : m.L c) : c ∉ m.sq b := fun q => g.dis c hc (g.own b c hb q).1
theorem Good.nd (g : Good m nx pv) {b : Nat} (hb : m.L b) : (b :: m.sq b).Nodup := List.nodup_cons.2 ⟨g.root_notin hb hb, g.nodup b hb⟩
theorem Good.unique (g : Good m nx pv) {b c e : Nat} (hb : m.L b) (hc : m.L c) (h1 : e ∈ m.sq b) (h2 : e ∈ m.sq c) : b = c := by
  have := (g.own b e hb h1).2.symm.trans (g.own c e hc h2).2
  simpa using this

def BM.ins (m : BM) (l : Nat) (u z : List Nat) (N : Nat) (v : Value) : BM :=
  { L := m.L, E := fun k => m.E k ∨ k = N, sq := upd m.sq l (u ++ N :: z), ow := upd m.ow N (some l), vl := upd m.vl N v }
def BM.rem (m : BM) (l : Nat) (u z : List Nat) (e : Nat) : BM := { m with sq := upd m.sq l (u ++ z), ow := upd m.ow e none }
def BM.setSq (m : BM) (l : Nat) (s : List Nat) : BM := { m with sq := upd m.sq l s }
def BM.setVl (m : BM) (e : Nat) (v : Value) : BM := { m with vl := upd m.vl e v }
def BM.newList (m : BM) (N : Nat) : BM := { m with L := fun k => m.L k ∨ k = N, sq := upd m.sq N [] }
def BM.newElem (m : BM) (N : Nat) (v : Value) : BM := { m with E := fun k => m.E k ∨ k = N, ow := upd m.ow N none, vl := upd m.vl N v }

/-- Another list's ring is not touched where the nodes that are written are the root or nodes of l, or new. -/
theorem Good.other (g : Good m nx pv) {nx' pv' : Nat → Option Nat} {l b : Nat} (hl : m.L l) (hb : m.L b) (hne : ¬ b = l) (T : List Nat) (hT : ∀ x ∈ T, x = l ∨ x ∈ m.sq l ∨ ¬ m.node x)
    (h1 : ∀ x, x ∉ T → nx' x = nx x) (h2 : ∀ x, x ∉ T → pv' x = pv x) : (nx' b = none ∧ pv' b = none ∧ m.sq b = []) ∨ ring nx' pv' b (m.sq b) := by
  have hnot : ∀ x, x = b ∨ x ∈ m.sq b → x ∉ T := by
    intro x hx hxT
    rcases hT x hxT with q | q | q
    · subst q
      rcases hx with hx | hx
      · exact hne hx.symm
      · exact g.root_notin hb hl hx
    · rcases hx with hx | hx
      · subst hx; exact g.root_notin hl hb q
      · exact hne (g.unique hb hl hx q)
    · rcases hx with hx | hx
      · subst hx; exact q (.inl hb)
      · exact q (.inr (g.own b x hb hx).1)
  rcases g.rg b hb with ⟨a, c, d⟩ | r
  · exact .inl ⟨(h1 b (hnot b (.inl rfl))).trans a, (h2 b (hnot b (.inl rfl))).trans c, d⟩
  · exact .inr (ring_congr r (fun x hx => h1 x (hnot x hx)) (fun x hx => h2 x (hnot x hx)))

theorem lt_or (b : Nat) (u : List Nat) : lt b u = b ∨ lt b u ∈ u := (lt_snoc b u).choose_spec.2.2
theorem hd_or (b : Nat) (z : List Nat) : hd z b = b ∨ hd z b ∈ z := (hd_cons b z).choose_spec.2.2

theorem Good.insert (g : Good m nx pv) {l N : Nat} {u z : List Nat} {v : Value} (hl : m.L l) (hs : m.sq l = u ++ z) (hr : ring nx pv l (m.sq l)) (hN : ¬ m.node N) :
    Good (m.ins l u z N v) (upd (upd (upd nx N none) N (some (hd z l))) (lt l u) (some N)) (upd (upd (upd pv N none) N (some (lt l u))) (hd z l) (some N)) ∧
    ring (upd (upd (upd nx N none) N (some (hd z l))) (lt l u) (some N)) (upd (upd (upd pv N none) N (some (lt l u))) (hd z l) (some N)) l ((m.ins l u z N v).sq l) := by
  have e1 : ∀ (f : Nat → Option Nat) (x : Option Nat), upd (upd f N none) N x = upd f N x := by intro f x; funext j; simp only [upd]; split <;> rfl
  rw [e1, e1]
  have hnd := g.nd hl
  rw [hs] at hnd hr
  have hNl : ¬ N = l := fun q => hN (q ▸ .inl hl)
  have hNs : N ∉ u ++ z := fun q => hN (.inr (g.own l N hl (hs ▸ q)).1)
  have hring := ring_insert hr hnd (e := N) (by simp only [List.mem_cons, not_or]; exact ⟨hNl, hNs⟩)
  have hltn : ∀ {x}, x = lt l u → x = l ∨ x ∈ m.sq l := by
    intro x hx; subst hx
    rcases lt_or l u with q | q
    · exact .inl q
    · exact .inr (by rw [hs]; simp [q])
  have hhdn : ∀ {x}, x = hd z l → x = l ∨ x ∈ m.sq l := by
    intro x hx; subst hx
    rcases hd_or l z with q | q
    · exact .inl q
    · exact .inr (by rw [hs]; simp [q])
  refine ⟨⟨?_, ?_, ?_, ?_, ?_⟩, ?_⟩
  · intro b hb
    by_cases hbl : b = l
    · subst hbl; right; simp only [BM.ins, upd_same]; exact hring
    · have := g.other (nx' := upd (upd nx N (some (hd z l))) (lt l u) (some N)) (pv' := upd (upd pv N (some (lt l u))) (hd z l) (some N)) hl hb hbl [N, lt l u, hd z l] (by
        intro x hx
        simp only [List.mem_cons, List.not_mem_nil, or_false] at hx
        rcases hx with q | q | q
        · subst q; exact .inr (.inr hN)
        · rcases hltn q with r | r
          · exact .inl r
          · exact .inr (.inl r)
        · rcases hhdn q with r | r
          · exact .inl r
          · exact .inr (.inl r)) (by
        intro x hx
        simp only [List.mem_cons, List.not_mem_nil, or_false, not_or] at hx
        simp [upd, hx]) (by
        intro x hx
        simp only [List.mem_cons, List.not_mem_nil, or_false, not_or] at hx
        simp [upd, hx])
      simp only [BM.ins, upd_other _ _ hbl]
      exact this
  · intro b hb
    by_cases hbl : b = l
    · subst hbl
      simp only [BM.ins, upd_same]
      have := List.nodup_append.1 (List.nodup_cons.1 hnd).2
      rw [List.nodup_append]
      refine ⟨this.1, List.nodup_cons.2 ⟨fun q => hNs (by simp [q]), this.2.1⟩, ?_⟩
      intro x hx y hy
      rcases List.mem_cons.1 hy with q | q
      · subst q; intro r; subst r; exact hNs (by simp [hx])
      · exact this.2.2 x hx y q
    · simp only [BM.ins, upd_other _ _ hbl]; exact g.nodup b hb
  · intro b e hb he
    by_cases hbl : b = l
    · subst hbl
      simp only [BM.ins, upd_same] at he ⊢
      rcases List.mem_append.1 he with q | q
      · have := g.own b e hb (by rw [hs]; simp [q])
        have hne : ¬ e = N := fun r => hNs (by rw [← r]; simp [q])
        exact ⟨.inl this.1, by rw [upd_other _ _ hne]; exact this.2⟩
      · rcases List.mem_cons.1 q with q | q
        · exact ⟨.inr q, by rw [q, upd_same]⟩
        · have := g.own b e hb (by rw [hs]; simp [q])
          have hne : ¬ e = N := fun r => hNs (by rw [← r]; simp [q])
          exact ⟨.inl this.1, by rw [upd_other _ _ hne]; exact this.2⟩
    · simp only [BM.ins, upd_other _ _ hbl] at he ⊢
      have := g.own b e hb he
      have hne : ¬ e = N := fun r => hN (.inr (r ▸ this.1))
      exact ⟨.inl this.1, by rw [upd_other _ _ hne]; exact this.2⟩
  · intro e he ho
    simp only [BM.ins] at he ho
    by_cases q : e = N
    · subst q; rw [upd_same] at ho; simp at ho
    · rw [upd_other _ _ q] at ho
      have hE : m.E e := he.resolve_right q
      have h0 := g.loose e hE ho
      have n1 : ¬ e = lt l u := fun r => by
        rcases hltn r with s | s
        · subst s; exact g.dis e hl hE
        · have := (g.own l e hl s).2; rw [ho] at this; simp at this
      have n2 : ¬ e = hd z l := fun r => by
        rcases hhdn r with s | s
        · subst s; exact g.dis e hl hE
        · have := (g.own l e hl s).2; rw [ho] at this; simp at this
      simp [upd, q, n1, n2, h0]
  · intro b hb he
    simp only [BM.ins] at hb he
    rcases he with he | he
    · exact g.dis b hb he
    · subst he; exact hN (.inl hb)
  · simp only [BM.ins, upd_same]; exact hring
theorem near_lt {l : Nat} {u s : List Nat} (hs : ∀ x ∈ u, x ∈ s) {x : Nat} (hx : x = lt l u) : x = l ∨ x ∈ s := by
  subst hx
  rcases lt_or l u with q | q
  · exact .inl q
  · exact .inr (hs _ q)
theorem near_hd {l : Nat} {z s : List Nat} (hs : ∀ x ∈ z, x ∈ s) {x : Nat} (hx : x = hd z l) : x = l ∨ x ∈ s := by
  subst hx
  rcases hd_or l z with q | q
  · exact .inl q
  · exact .inr (hs _ q)

theorem Good.remove (g : Good m nx pv) {l e : Nat} {u z : List Nat} (hl : m.L l) (hs : m.sq l = u ++ e :: z) (hr : ring nx pv l (m.sq l)) :
    Good (m.rem l u z e) (upd (upd nx (lt l u) (some (hd z l))) e none) (upd (upd pv (hd z l) (some (lt l u))) e none) ∧
    ring (upd (upd nx (lt l u) (some (hd z l))) e none) (upd (upd pv (hd z l) (some (lt l u))) e none) l ((m.rem l u z e).sq l) := by
  have hnd := g.nd hl
  rw [hs] at hnd hr
  have hel : ¬ e = l := fun q => by subst q; exact g.root_notin hl hl (by rw [hs]; simp)
  have hnd1 := List.nodup_append.1 (List.nodup_cons.1 hnd).2
  have heu : e ∉ u := fun q => hnd1.2.2 e q e (by simp) rfl
  have hez : e ∉ z := (List.nodup_cons.1 hnd1.2.1).1
  have hring := ring_remove hr hnd
  have hring' : ring (upd (upd nx (lt l u) (some (hd z l))) e none) (upd (upd pv (hd z l) (some (lt l u))) e none) l (u ++ z) := by
    refine ring_congr hring (fun x hx => upd_other _ _ ?_) (fun x hx => upd_other _ _ ?_) <;>
    · intro q; subst q
      rcases hx with hx | hx
      · exact hel hx
      · rcases List.mem_append.1 hx with q | q
        · exact heu q
        · exact hez q
  have hlt : ∀ {x}, x = lt l u → x = l ∨ x ∈ m.sq l := fun hx => near_lt (by rw [hs]; intro x hx; simp [hx]) hx
  have hhd : ∀ {x}, x = hd z l → x = l ∨ x ∈ m.sq l := fun hx => near_hd (by rw [hs]; intro x hx; simp [hx]) hx
  refine ⟨⟨?_, ?_, ?_, ?_, g.dis⟩, ?_⟩
  · intro b hb
    by_cases hbl : b = l
    · subst hbl; right; simp only [BM.rem, upd_same]; exact hring'
    · have := g.other (nx' := upd (upd nx (lt l u) (some (hd z l))) e none) (pv' := upd (upd pv (hd z l) (some (lt l u))) e none) hl hb hbl [e, lt l u, hd z l] (by
        intro x hx
        simp only [List.mem_cons, List.not_mem_nil, or_false] at hx
        rcases hx with q | q | q
        · subst q; exact .inr (.inl (by rw [hs]; simp))
        · exact (hlt q).imp id .inl
        · exact (hhd q).imp id .inl) (by
        intro x hx
        simp only [List.mem_cons, List.not_mem_nil, or_false, not_or] at hx
        simp [upd, hx]) (by
        intro x hx
        simp only [List.mem_cons, List.not_mem_nil, or_false, not_or] at hx
        simp [upd, hx])
      simp only [BM.rem, upd_other _ _ hbl]
      exact this
  · intro b hb
    by_cases hbl : b = l
    · subst hbl
      simp only [BM.rem, upd_same]
      rw [List.nodup_append]
      exact ⟨hnd1.1, (List.nodup_cons.1 hnd1.2.1).2, fun x hx y hy => hnd1.2.2 x hx y (by simp [hy])⟩
    · simp only [BM.rem, upd_other _ _ hbl]; exact g.nodup b hb
  · intro b x hb hx
    by_cases hbl : b = l
    · subst hbl
      simp only [BM.rem, upd_same] at hx ⊢
      have hne : ¬ x = e := by
        intro q; subst q
        rcases List.mem_append.1 hx with q | q
        · exact heu q
        · exact hez q
      have := g.own b x hb (by rw [hs]; rcases List.mem_append.1 hx with q | q <;> simp [q])
      exact ⟨this.1, by rw [upd_other _ _ hne]; exact this.2⟩
    · simp only [BM.rem, upd_other _ _ hbl] at hx ⊢
      have := g.own b x hb hx
      have hne : ¬ x = e := by
        intro q; subst q
        exact hbl (g.unique hb hl hx (by rw [hs]; simp))
      exact ⟨this.1, by rw [upd_other _ _ hne]; exact this.2⟩
  · intro x hx ho
    simp only [BM.rem] at hx ho
    by_cases q : x = e
    · subst q; simp [upd]
    · rw [upd_other _ _ q] at ho
      have h0 := g.loose x hx ho
      have n1 : ¬ x = lt l u := fun r => by
        rcases hlt r with s | s
        · subst s; exact g.dis x hl hx
        · have := (g.own l x hl s).2; rw [ho] at this; simp at this
      have n2 : ¬ x = hd z l := fun r => by
        rcases hhd r with s | s
        · subst s; exact g.dis x hl hx
        · have := (g.own l x hl s).2; rw [ho] at this; simp at this
      simp [upd, q, n1, n2, h0]
  · simp only [BM.rem, upd_same]; exact hring'

theorem Good.move (g : Good m nx pv) {l e : Nat} {u z u' z' : List Nat} (hl : m.L l) (hs : m.sq l = u ++ e :: z) (hs' : u ++ z = u' ++ z') (hr : ring nx pv l (m.sq l)) :
    Good (m.setSq l (u' ++ e :: z')) (upd (upd (upd nx (lt l u) (some (hd z l))) e (some (hd z' l))) (lt l u') (some e)) (upd (upd (upd pv (hd z l) (some (lt l u))) e (some (lt l u'))) (hd z' l) (some e)) ∧
    ring (upd (upd (upd nx (lt l u) (some (hd z l))) e (some (hd z' l))) (lt l u') (some e)) (upd (upd (upd pv (hd z l) (some (lt l u))) e (some (lt l u'))) (hd z' l) (some e)) l ((m.setSq l (u' ++ e :: z')).sq l) := by
  have hnd := g.nd hl
  rw [hs] at hnd hr
  have hel : ¬ e = l := fun q => by subst q; exact g.root_notin hl hl (by rw [hs]; simp)
  have hnd1 := List.nodup_append.1 (List.nodup_cons.1 hnd).2
  have heu : e ∉ u := fun q => hnd1.2.2 e q e (by simp) rfl
  have hez : e ∉ z := (List.nodup_cons.1 hnd1.2.1).1
  have he' : e ∉ u' ++ z' := by rw [← hs']; intro q; rcases List.mem_append.1 q with q | q; exact heu q; exact hez q
  have hsub : ∀ x, x ∈ u' ++ z' → x ∈ m.sq l := by
    intro x hx; rw [← hs'] at hx; rw [hs]; rcases List.mem_append.1 hx with q | q <;> simp [q]
  have hnd2 : (l :: (u' ++ z')).Nodup := by
    rw [← hs']; refine hnd.sublist ?_
    exact List.Sublist.cons_cons _ (List.Sublist.append_left (List.sublist_cons_self _ _) _)
  have hring := ring_insert (by rw [← hs']; exact ring_remove hr hnd) hnd2 (e := e) (by simp only [List.mem_cons, not_or]; exact ⟨hel, he'⟩)
  have hlt : ∀ {x}, x = lt l u → x = l ∨ x ∈ m.sq l := fun hx => near_lt (by rw [hs]; intro x hx; simp [hx]) hx
  have hhd : ∀ {x}, x = hd z l → x = l ∨ x ∈ m.sq l := fun hx => near_hd (by rw [hs]; intro x hx; simp [hx]) hx
  have hlt' : ∀ {x}, x = lt l u' → x = l ∨ x ∈ m.sq l := fun hx => near_lt (fun x hx => hsub x (by simp [hx])) hx
  have hhd' : ∀ {x}, x = hd z' l → x = l ∨ x ∈ m.sq l := fun hx => near_hd (fun x hx => hsub x (by simp [hx])) hx
  have hesq : e ∈ m.sq l := by rw [hs]; simp
  refine ⟨⟨?_, ?_, ?_, ?_, g.dis⟩, ?_⟩
  · intro b hb
    by_cases hbl : b = l
    · subst hbl; right; simp only [BM.setSq, upd_same]; exact hring
    · have := g.other (nx' := upd (upd (upd nx (lt l u) (some (hd z l))) e (some (hd z' l))) (lt l u') (some e)) (pv' := upd (upd (upd pv (hd z l) (some (lt l u))) e (some (lt l u'))) (hd z' l) (some e))
          hl hb hbl [e, lt l u, hd z l, lt l u', hd z' l] (by
        intro x hx
        simp only [List.mem_cons, List.not_mem_nil, or_false] at hx
        rcases hx with q | q | q | q | q
        · subst q; exact .inr (.inl hesq)
        · exact (hlt q).imp id .inl
        · exact (hhd q).imp id .inl
        · exact (hlt' q).imp id .inl
        · exact (hhd' q).imp id .inl) (by
        intro x hx
        simp only [List.mem_cons, List.not_mem_nil, or_false, not_or] at hx
        simp [upd, hx]) (by
        intro x hx
        simp only [List.mem_cons, List.not_mem_nil, or_false, not_or] at hx
        simp [upd, hx])
      simp only [BM.setSq, upd_other _ _ hbl]
      exact this
  · intro b hb
    by_cases hbl : b = l
    · subst hbl
      simp only [BM.setSq, upd_same]
      have := List.nodup_append.1 (List.nodup_cons.1 hnd2).2
      rw [List.nodup_append]
      refine ⟨this.1, List.nodup_cons.2 ⟨fun q => he' (by simp [q]), this.2.1⟩, ?_⟩
      intro x hx y hy
      rcases List.mem_cons.1 hy with q | q
      · subst q; intro r; subst r; exact he' (by simp [hx])
      · exact this.2.2 x hx y q
    · simp only [BM.setSq, upd_other _ _ hbl]; exact g.nodup b hb
  · intro b x hb hx
    by_cases hbl : b = l
    · subst hbl
      simp only [BM.setSq, upd_same] at hx ⊢
      refine g.own b x hb ?_
      rcases List.mem_append.1 hx with q | q
      · exact hsub x (by simp [q])
      · rcases List.mem_cons.1 q with q | q
        · subst q; exact hesq
        · exact hsub x (by simp [q])
    · simp only [BM.setSq, upd_other _ _ hbl] at hx ⊢
      exact g.own b x hb hx
  · intro x hx ho
    have h0 := g.loose x hx ho
    have key : ∀ y, (y = l ∨ y ∈ m.sq l) → ¬ x = y := fun y hy r => by
      subst r
      rcases hy with s | s
      · subst s; exact g.dis x hl hx
      · have := (g.own l x hl s).2
        simp only [BM.setSq] at ho
        rw [ho] at this; simp at this
    simp [upd, key _ (hlt rfl), key _ (hhd rfl), key _ (hlt' rfl), key _ (hhd' rfl), key e (.inr hesq), h0]
  · simp only [BM.setSq, upd_same]; exact hring

theorem Good.init (g : Good m nx pv) {l : Nat} (hl : m.L l) : Good (m.setSq l []) (upd nx l (some l)) (upd pv l (some l)) ∧ ring (upd nx l (some l)) (upd pv l (some l)) l ((m.setSq l []).sq l) := by
  refine ⟨⟨?_, ?_, ?_, ?_, g.dis⟩, by simp only [BM.setSq, upd_same]; exact ring_new l⟩
  · intro b hb
    by_cases hbl : b = l
    · subst hbl; right; simp only [BM.setSq, upd_same]; exact ring_new b
    · have := g.other (nx' := upd nx l (some l)) (pv' := upd pv l (some l)) hl hb hbl [l] (by intro x hx; simp at hx; exact .inl hx) (by
        intro x hx
        simp only [List.mem_cons, List.not_mem_nil, or_false] at hx
        simp [upd, hx]) (by
        intro x hx
        simp only [List.mem_cons, List.not_mem_nil, or_false] at hx
        simp [upd, hx])
      rw [show (m.setSq l []).sq b = m.sq b from upd_other _ _ hbl]
      exact this
  · intro b hb
    by_cases hbl : b = l
    · subst hbl; simp [BM.setSq, upd]
    · simp only [BM.setSq, upd_other _ _ hbl]; exact g.nodup b hb
  · intro b x hb hx
    by_cases hbl : b = l
    · subst hbl; simp [BM.setSq, upd] at hx
    · simp only [BM.setSq, upd_other _ _ hbl] at hx ⊢
      exact g.own b x hb hx
  · intro x hx ho
    have h0 := g.loose x hx ho
    have : ¬ x = l := fun r => by subst r; exact g.dis x hl hx
    simp [upd, this, h0]

theorem Good.newList (g : Good m nx pv) {N : Nat} (hN : ¬ m.node N) : Good (m.newList N) (upd nx N none) (upd pv N none) := by
  have hne : ∀ k, m.node k → ¬ k = N := fun k hk e => hN (e ▸ hk)
  refine ⟨?_, ?_, ?_, ?_, ?_⟩
  · intro b hb
    simp only [BM.newList] at hb ⊢
    by_cases hbl : b = N
    · subst hbl; left; simp [upd]
    · have hb := hb.resolve_right hbl
      rw [upd_other _ _ hbl, upd_other _ _ hbl, upd_other _ _ hbl]
      rcases g.rg b hb with q | q
      · exact .inl q
      · refine .inr (ring_congr q ?_ ?_) <;>
        · intro x hx
          refine upd_other _ _ (hne x ?_)
          rcases hx with r | r
          · subst r; exact .inl hb
          · exact .inr (g.own b x hb r).1
  · intro b hb
    simp only [BM.newList] at hb ⊢
    by_cases hbl : b = N
    · subst hbl; simp [upd]
    · rw [upd_other _ _ hbl]; exact g.nodup b (hb.resolve_right hbl)
  · intro b x hb hx
    simp only [BM.newList] at hb hx ⊢
    by_cases hbl : b = N
    · subst hbl; simp [upd] at hx
    · rw [upd_other _ _ hbl] at hx; exact g.own b x (hb.resolve_right hbl) hx
  · intro x hx ho
    have h0 := g.loose x hx ho
    have := hne x (.inr hx)
    simp [upd, this, h0]
  · intro b hb he
    simp only [BM.newList] at hb he
    rcases hb with hb | hb
    · exact g.dis b hb he
    · subst hb; exact hN (.inr he)

theorem Good.newElem (g : Good m nx pv) {N : Nat} {v : Value} (hN : ¬ m.node N) : Good (m.newElem N v) (upd nx N none) (upd pv N none) := by
  have hne : ∀ k, m.node k → ¬ k = N := fun k hk e => hN (e ▸ hk)
  refine ⟨?_, g.nodup, ?_, ?_, ?_⟩
  · intro b hb
    have hbl := hne b (.inl hb)
    rw [upd_other _ _ hbl, upd_other _ _ hbl]
    rcases g.rg b hb with q | q
    · exact .inl q
    · refine .inr (ring_congr q ?_ ?_) <;>
      · intro x hx
        refine upd_other _ _ (hne x ?_)
        rcases hx with r | r
        · subst r; exact .inl hb
        · exact .inr (g.own b x hb r).1
  · intro b x hb hx
    have := g.own b x hb hx
    exact ⟨.inl this.1, by simp only [BM.newElem]; rw [upd_other _ _ (hne x (.inr this.1))]; exact this.2⟩
  · intro x hx ho
    simp only [BM.newElem] at hx ho
    by_cases q : x = N
    · subst q; simp [upd]
    · rw [upd_other _ _ q] at ho
      rw [upd_other _ _ q, upd_other _ _ q]
      exact g.loose x (hx.resolve_right q) ho
  · intro b hb he
    simp only [BM.newElem] at hb he
    rcases he with he | he
    · exact g.dis b hb he
    · subst he; exact hN (.inl hb)
end
end Bead
end Go.Proofs.Ytidnmanljdadaaa
