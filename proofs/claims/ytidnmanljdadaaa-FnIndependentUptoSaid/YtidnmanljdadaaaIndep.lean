/- FnIndependent returns true. -/
import Derived.Test.YtidnmanljdadaaaShifted
import Derived.Test.YtidnmanljdadaaaAnswered
import Derived.Test.YtidnmanljdadaaaLaws3
import Derived.Test.YtidnmanljdadaaaMix
set_option linter.all false
namespace Go.Proofs.Ytidnmanljdadaaa
open Go.RowKit
namespace Bead
set_option maxRecDepth 100000

theorem Turns.apart {n : Nat} {pa pb : List Nat} (h : Turns n pa pb) : (∀ p ∈ pa, p ∉ pb) ∧ (∀ p, p < n → p ∈ pa ∨ p ∈ pb) := by
  induction h with
  | zero => exact ⟨by simp, fun p hp => by omega⟩
  | @mine n pa pb t ih =>
    obtain ⟨_, _, h3, _, _⟩ := t.facts
    refine ⟨fun p hp => ?_, fun p hp => ?_⟩
    · rcases List.mem_append.1 hp with q | q
      · exact ih.1 p q
      · simp at q; subst q; intro r; have := h3 _ r; omega
    · by_cases q : p = n
      · subst q; exact .inl (by simp)
      · rcases ih.2 p (by omega) with r | r
        · exact .inl (by simp [r])
        · exact .inr r
  | @yours n pa pb t ih =>
    obtain ⟨_, h2, _, _, _⟩ := t.facts
    refine ⟨fun p hp r => ?_, fun p hp => ?_⟩
    · rcases List.mem_append.1 r with q | q
      · exact ih.1 p hp q
      · simp at q; subst q; have := h2 _ hp; omega
    · by_cases q : p = n
      · subst q; exact .inr (by simp)
      · rcases ih.2 p (by omega) with r | r
        · exact .inl r
        · exact .inr (by simp [r])

def cZero : Cl := ⟨0, 0, 0, 0, 0, Vl.zero⟩
theorem zeros_cells (n : Nat) : (madeCells (Value.agg #[.int .i64 0, .int .i64 0, .int .i64 0, .int .i64 0, .int .i64 0, .int .i64 0, .int .i64 0, .string ⟨#[]⟩]).cells (n * 8)).toList = (List.replicate n cZero).flatMap Cl.cells := by
  have e : (Value.agg #[.int .i64 0, .int .i64 0, .int .i64 0, .int .i64 0, .int .i64 0, .int .i64 0, .int .i64 0, .string ⟨#[]⟩]).cells = cZero.cells.toArray := by kernel_rfl
  rw [e]
  apply List.ext_getElem?
  intro i
  by_cases h : i < n * 8
  · have h8 : i % 8 < 8 := Nat.mod_lt _ (by decide)
    have q := flat_get Cl.cells 8 Cl.cells_length (List.replicate n cZero) (i / 8) (i % 8) cZero (by rw [List.getElem?_replicate, if_pos (by omega)]) h8
    rw [show i / 8 * 8 + i % 8 = i by omega] at q
    rw [q, Array.getElem?_toList]
    have hl : cZero.cells.length = 8 := Cl.cells_length _
    have hi : i % 8 < cZero.cells.length := by omega
    simp only [madeCells, Array.getElem?_map, Array.getElem?_range, h, if_true, Option.map_some, List.size_toArray, hl]
    rw [List.getElem?_eq_getElem hi]
    simp [hi]
  · rw [List.getElem?_eq_none (by simp [madeCells]; omega), List.getElem?_eq_none (by rw [flat_length _ 8 Cl.cells_length]; simp; omega)]

/-- A whole call is stored. -/
def eight (w : World) (b o : Nat) (c : Cl) : World := (((((((w.setCell ⟨b, o, none⟩ (.int .i64 c.op)).setCell ⟨b, o + 1, none⟩ (.int .i64 c.list)).setCell ⟨b, o + 2, none⟩ (.int .i64 c.other)).setCell ⟨b, o + 3, none⟩ (.int .i64 c.elem)).setCell ⟨b, o + 4, none⟩ (.int .i64 c.mark)).setCell ⟨b, o + 5, none⟩ (.int .i64 c.v.kind)).setCell ⟨b, o + 6, none⟩ (.int .i64 c.v.n)).setCell ⟨b, o + 7, none⟩ (.string c.v.s)
theorem eight_keeps (w : World) (b o : Nat) (c : Cl) : Keeps (fun k => k = b) w (eight w b o c) :=
  (((((((((Keeps.refl (fun k => k = b) w).setCell (fun _ => rfl) _).setCell (fun _ => rfl) _).setCell (fun _ => rfl) _).setCell (fun _ => rfl) _).setCell (fun _ => rfl) _).setCell (fun _ => rfl) _).setCell (fun _ => rfl) _).setCell (fun _ => rfl) _)
theorem own_set8 {w : World} {B b n cap : Nat} {cs : List Cl} (h : w.ownsRow B 32 8 (.slice (some ⟨b, 0, none⟩) n cap) n (cs.flatMap Cl.cells)) {j : Nat} (c' : Cl) (hj : j < cs.length) :
    (eight w b (j * 8) c').ownsRow B 32 8 (.slice (some ⟨b, 0, none⟩) n cap) n ((cs.set j c').flatMap Cl.cells) := by
  have hg : ∀ c : Cl, (cs.set j c)[j]? = some c := fun c => by rw [List.getElem?_set_self hj]
  obtain ⟨c, hc⟩ : ∃ c, cs[j]? = some c := ⟨_, List.getElem?_eq_getElem hj⟩
  obtain ⟨o0, l0, t0, e0, m0, k0, n0, s0⟩ := c
  obtain ⟨o1, l1, t1, e1, m1, k1, n1, s1⟩ := c'
  have h1 := own_set1 (t := 0) (c' := ⟨o1, l0, t0, e0, m0, k0, n0, s0⟩) (v := .int .i64 o1) h hc (by decide) rfl
  have h2 := own_set1 (t := 1) (c' := ⟨o1, l1, t0, e0, m0, k0, n0, s0⟩) (v := .int .i64 l1) h1 (hg _) (by decide) rfl
  rw [List.set_set] at h2
  have h3 := own_set1 (t := 2) (c' := ⟨o1, l1, t1, e0, m0, k0, n0, s0⟩) (v := .int .i64 t1) h2 (hg _) (by decide) rfl
  rw [List.set_set] at h3
  have h4 := own_set1 (t := 3) (c' := ⟨o1, l1, t1, e1, m0, k0, n0, s0⟩) (v := .int .i64 e1) h3 (hg _) (by decide) rfl
  rw [List.set_set] at h4
  have h5 := own_set1 (t := 4) (c' := ⟨o1, l1, t1, e1, m1, k0, n0, s0⟩) (v := .int .i64 m1) h4 (hg _) (by decide) rfl
  rw [List.set_set] at h5
  have h6 := own_set1 (t := 5) (c' := ⟨o1, l1, t1, e1, m1, k1, n0, s0⟩) (v := .int .i64 k1) h5 (hg _) (by decide) rfl
  rw [List.set_set] at h6
  have h7 := own_set1 (t := 6) (c' := ⟨o1, l1, t1, e1, m1, k1, n1, s0⟩) (v := .int .i64 n1) h6 (hg _) (by decide) rfl
  rw [List.set_set] at h7
  have h8 := own_set1 (t := 7) (c' := ⟨o1, l1, t1, e1, m1, k1, n1, s1⟩) (v := .string s1) h7 (hg _) (by decide) rfl
  rw [List.set_set] at h8
  exact h8

/-- The places of the two scripts. -/
structure IxAt (w wr : World) (pa pb : List Nat) (u v : Value) : Prop where
  m : wr.ownsRow w.heap.size 3 1 u pa.length (ints pa)
  y : wr.ownsRow w.heap.size 3 1 v pb.length (ints pb)
  ne : ∀ k, u.ownBlock = some k → v.ownBlock ≠ some k
  below : Below w.heap.size w wr
theorem IxAt.swap {w wr : World} {pa pb : List Nat} {u v : Value} (h : IxAt w wr pa pb u v) : IxAt w wr pb pa v u := ⟨h.y, h.m, fun k q r => h.ne k r q, h.below⟩
theorem IxAt.next {w wr w2 : World} {pa pb : List Nat} {u v u' : Value} {n : Nat} {o : Obj} (h : IxAt w wr pa pb u v) (hown : w2.ownsRow w.heap.size 3 1 u' (pa.length + 1) (ints pa ++ [.int .i64 (n : Nat)])) (hg : (wr.alloc o).grownBy w2 u.ownBlock)
    (hn : ∀ k, u'.ownBlock = some k → u.ownBlock = some k ∨ (wr.alloc o).heap.size ≤ k) : IxAt w w2 (pa ++ [n]) pb u' v := by
  have kg : Keeps (fun k => u.ownBlock = some k) wr w2 := ((Keeps.refl _ wr).alloc o).grown hg (fun k q _ => q)
  refine ⟨by simpa [ints] using hown, own_keeps h.y kg (fun k q r => h.ne k r q), fun k q r => ?_, below_grown (h.below.alloc h.below.size o) (h.m.alloc o) (Nat.le_refl _) hg⟩
  rcases hn k q with z | z
  · exact h.ne k z r
  · have := (h.y.lt k r).2
    simp at z; omega

/-- The calls that have been put to their places. -/
structure FillAt (w wr : World) (g N : Nat) (M : List Cl) : Prop where
  own : wr.ownsRow w.heap.size 32 8 (.slice (some ⟨g, 0, none⟩) N N) N (M.flatMap Cl.cells)
  len : M.length = N
  below : Below w.heap.size w wr
theorem FillAt.next {w wr : World} {g N p : Nat} {M : List Cl} (h : FillAt w wr g N M) (hp : p < N) (c : Cl) : FillAt w (eight wr g (p * 8) c) g N (M.set p c) := by
  have hg : w.heap.size ≤ g := (h.own.lt g rfl).1
  exact ⟨own_set8 h.own c (by rw [h.len]; exact hp), by rw [List.length_set]; exact h.len, h.below.trans ((eight_keeps wr g (p * 8) c).below (fun k hk _ q => by omega) h.below.size)⟩
/-- The first j places hold what they should. -/
def Put (a M : List Cl) (pa : List Nat) (j : Nat) : Prop := ∀ k p, k < j → pa[k]? = some p → M[p]? = (a[k]?).map (shiftC pa)
theorem put_next {a M : List Cl} {pa : List Nat} {j p : Nat} {c : Cl} (h : Put a M pa j) (hd : pa.Nodup) (hp : pa[j]? = some p) (hc : a[j]? = some c) (hM : p < M.length) : Put a (M.set p (shiftC pa c)) pa (j + 1) := by
  intro k q hk hq
  by_cases e : k = j
  · subst e
    rw [hp] at hq
    simp at hq
    subst hq
    rw [List.getElem?_set_self hM, hc]; rfl
  · have hne : p ≠ q := fun z => e (by
      subst z
      rw [← idxOf_of_get hd hp, ← idxOf_of_get hd hq])
    rw [List.getElem?_set_ne hne]
    exact h k q (by omega) hq
theorem put_other {a M : List Cl} {pa pb : List Nat} {j p : Nat} {c : Cl} (h : Put a M pa j) (hp : p ∈ pb) (hx : ∀ q ∈ pa, q ∉ pb) : Put a (M.set p c) pa j := by
  intro k q hk hq
  rw [List.getElem?_set_ne (fun z => by subst z; exact hx _ (List.mem_of_getElem? hq) hp)]
  exact h k q hk hq
theorem ans_back {a M : List Cl} {pa : List Nat} (hl : pa.length = a.length) (hin : ∀ p ∈ pa, p < M.length) (h : ∀ (k p : Nat) (x y : An), pa[k]? = some p → (ansFrom Md.init a)[k]? = some x → (ansFrom Md.init M)[p]? = some y → unplace pa y = x) :
    pa.map (anAt (ansFrom Md.init M) pa) = ansFrom Md.init a := by
  apply List.ext_getElem?
  intro k
  by_cases hk : k < pa.length
  · have e1 : pa[k]? = some pa[k] := List.getElem?_eq_getElem hk
    have hm := hin _ (List.getElem_mem hk)
    have hka : k < (ansFrom Md.init a).length := by rw [ansFrom_length]; omega
    have hma : pa[k] < (ansFrom Md.init M).length := by rw [ansFrom_length]; exact hm
    have e2 : (ansFrom Md.init a)[k]? = some (ansFrom Md.init a)[k] := List.getElem?_eq_getElem hka
    have e3 : (ansFrom Md.init M)[pa[k]]? = some (ansFrom Md.init M)[pa[k]] := List.getElem?_eq_getElem hma
    rw [e2, List.getElem?_map, e1]
    simp only [Option.map_some, anAt, List.getD_eq_getElem?_getD, e3, Option.getD_some]
    rw [h k _ _ _ e1 e2 e3]
  · rw [List.getElem?_eq_none (by simp; omega), List.getElem?_eq_none (by rw [ansFrom_length]; omega)]
end Bead
end Go.Proofs.Ytidnmanljdadaaa
