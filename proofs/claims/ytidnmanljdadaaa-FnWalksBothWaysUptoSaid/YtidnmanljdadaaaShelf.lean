/- The kit's contracts of slices.Reverse, Clone and Delete of rows of numbers, at this program, in our own words. -/
import Derived.Test.YtidnmanljdadaaaScripts
import Derived.Shelf.Slices.Cells
import Derived.Shelf.Slices.Clone
set_option linter.all false
namespace Go.Proofs.Ytidnmanljdadaaa
open Go.RowKit
namespace Bead
set_option maxRecDepth 100000

def revInt_ren : Go.Shelf.Ren := ⟨fun | 112 => 25 | n => n, fun | 0 => 0 | 3 => 3 | 4 => 4 | 28 => 27 | n => n, fun n => n⟩
theorem revInt_lays : Lays.n112 Try.prog revInt_ren where
  mixed := by kernel_rfl
  f112 := Try.func25.trans (congrArg some (by kernel_rfl))
  t0 := Try.underlying0
  a0 := Try.isAgg0
  z0 := Try.sizeOf0
  v0 := Try.zeroValue0
  t3 := Try.underlying3
  a3 := Try.isAgg3
  z3 := Try.sizeOf3
  v3 := Try.zeroValue3
  t4 := Try.underlying4
  a4 := Try.isAgg4
  z4 := Try.sizeOf4
  v4 := Try.zeroValue4
  t28 := Try.underlying27
  a28 := Try.isAgg27
  z28 := Try.sizeOf27
  v28 := Try.zeroValue27

def cloneInt_ren : Go.Shelf.Ren := ⟨fun | 15 => 24 | n => n, fun | 3 => 3 | 4 => 4 | 22 => 27 | n => n, fun n => n⟩
theorem cloneInt_lays : Lays2.n15 Try.prog cloneInt_ren where
  mixed := by kernel_rfl
  f15 := Try.func24.trans (congrArg some (by kernel_rfl))
  t3 := Try.underlying3
  a3 := Try.isAgg3
  z3 := Try.sizeOf3
  v3 := Try.zeroValue3
  t4 := Try.underlying4
  a4 := Try.isAgg4
  z4 := Try.sizeOf4
  v4 := Try.zeroValue4
  t22 := Try.underlying27
  a22 := Try.isAgg27
  z22 := Try.sizeOf27
  v22 := Try.zeroValue27
  i3 := by kernel_rfl

/-- A row of cells, overwritten from a place on. -/
def over (c : Array Value) : Nat → List Value → Array Value
  | _, [] => c
  | o, v :: r => over (c.setIfInBounds o v) (o + 1) r
theorem over_size : ∀ (vs : List Value) (c : Array Value) (o : Nat), (over c o vs).size = c.size
  | [], _, _ => rfl
  | v :: r, c, o => by rw [over, over_size r]; simp
theorem over_get : ∀ (vs : List Value) (c : Array Value) (o k : Nat), o + vs.length ≤ c.size → (over c o vs)[k]? = if k < o then c[k]? else if k < o + vs.length then vs[k - o]? else c[k]?
  | [], c, o, k, _ => by simp only [over, List.length_nil, Nat.add_zero]; split <;> rfl
  | v :: r, c, o, k, h => by
    simp only [List.length_cons] at h
    rw [over, over_get r _ (o + 1) k (by simp; omega)]
    simp only [List.length_cons, Array.getElem?_setIfInBounds]
    by_cases q1 : k < o
    · rw [if_pos (by omega), if_neg (by omega), if_pos q1]
    · by_cases q2 : k = o
      · subst q2
        rw [if_pos (by omega), if_pos rfl, if_pos (by omega), if_neg (by omega), if_pos (by omega), Nat.sub_self]; rfl
      · rw [if_neg (show ¬ k < o + 1 by omega), if_neg q1, if_neg (show ¬ o = k by omega)]
        by_cases q3 : k < o + 1 + r.length
        · rw [if_pos q3, if_pos (by omega), show k - o = (k - (o + 1)) + 1 by omega]; rfl
        · rw [if_neg q3, if_neg (by omega)]
theorem over_heap (b : Nat) {t : TypeId} : ∀ (vs : List Value) (o : Nat) {w : World} {c : Array Value}, w.heap[b]? = some (.cells c t (0, 0)) → (w.setCells b o vs).heap[b]? = some (.cells (over c o vs) t (0, 0))
  | [], _, _, _, h => h
  | v :: r, o, _, _, h => over_heap b r (o + 1) (heap_set (o := o) (v := v) h)
theorem keeps_setCells (b : Nat) : ∀ (vs : List Value) (o : Nat) (w w' : World), Keeps (fun k => k = b) w w' → Keeps (fun k => k = b) w (w'.setCells b o vs)
  | [], _, _, _, h => h
  | v :: r, o, w, w', h => keeps_setCells b r (o + 1) w _ (h.setCell (p := ⟨b, o, none⟩) (fun _ => rfl) v)
theorem heap_sets (b : Nat) : ∀ (vs : List Value) (o : Nat) {w w' : World}, w'.heap = w.heap → (w'.setCells b o vs).heap = (w.setCells b o vs).heap
  | [], _, _, _, h => h
  | v :: r, o, w, w', h => heap_sets b r (o + 1) (by simp only [World.setCell, h])
theorem over_take {c : Array Value} {vs : List Value} {n : Nat} (h : vs.length ≤ c.size) (hn : n ≤ vs.length) : (over c 0 vs).toList.take n = vs.take n := by
  apply List.ext_getElem?
  intro k
  by_cases q : k < n
  · rw [List.getElem?_take_of_lt q, List.getElem?_take_of_lt q, Array.getElem?_toList, over_get vs c 0 k (by omega), if_neg (by omega), if_pos (by omega), Nat.sub_zero]
  · rw [List.getElem?_eq_none (by simp; omega), List.getElem?_eq_none (by simp; omega)]
/-- A row of own cells, all of whose cells (and maybe some of the room) are written anew. -/
theorem own_over {w w' : World} {B : Nat} {e : TypeId} {g n m cap : Nat} {xs ys : List Value} (h : w.ownsRow B e 1 (.slice (some ⟨g, 0, none⟩) n cap) n xs) (hy : ys.length = n) (hm : m ≤ n) (hw : w'.heap = (w.setCells g 0 ys).heap) :
    w'.ownsRow B e 1 (.slice (some ⟨g, 0, none⟩) m cap) m (ys.take m) := by
  rcases h.2 with ⟨q, _⟩ | ⟨g', cap', cur, hv, h1, h2, h3, h4, h5, h6⟩
  · simp at q
  simp only [Value.slice.injEq, Option.some.injEq, Addr.mk.injEq] at hv
  obtain ⟨⟨rfl, _⟩, _, rfl⟩ := hv
  refine ⟨by rw [List.length_take]; omega, .inr ⟨g, cap, over cur 0 ys, rfl, h1, ?_, by omega, h4, by rw [over_size]; exact h5, ?_⟩⟩
  · rw [hw]; exact over_heap g ys 0 h2
  · rw [Nat.mul_one]; exact over_take (by omega) (by omega)
theorem ints_map (L : List Nat) : (L.map (fun (x : Nat) => (x : Int))).map (Value.int .i64) = ints L := by simp [ints]
theorem nats_cells {w : World} {b off : Nat} {L : List Nat} (h : ∀ (j x : Nat), L[j]? = some x → w.cell? ⟨b, off + j, none⟩ = some (.int .i64 (x : Nat))) : ∀ j, j < (L.map (fun (x : Nat) => (x : Int))).length → w.cell? ⟨b, off + j, none⟩ = some (.int .i64 ((L.map (fun (x : Nat) => (x : Int))).getD j 0)) := fun j hj => by
  have hj' : j < L.length := by simpa using hj
  rw [h j L[j] (List.getElem?_eq_getElem hj')]
  simp [List.getD_eq_getElem?_getD, hj']
theorem own_free {w : World} {B : Nat} {e : TypeId} {sz g n cap : Nat} {xs : List Value} (h : w.ownsRow B e sz (.slice (some ⟨g, 0, none⟩) n cap) n xs) (o : Nat) : w.frozen? ⟨g, o, none⟩ = false := by
  rcases h.2 with ⟨q, _⟩ | ⟨g', cap', cur, hv, h1, h2, _⟩
  · simp at q
  simp only [Value.slice.injEq, Option.some.injEq, Addr.mk.injEq] at hv
  obtain ⟨⟨rfl, _⟩, _, rfl⟩ := hv
  exact free_of_heap h2
theorem own_room {w : World} {B : Nat} {e : TypeId} {sz g n cap : Nat} {xs : List Value} (h : w.ownsRow B e sz (.slice (some ⟨g, 0, none⟩) n cap) n xs) : n ≤ cap ∧ cap ≤ maxLen := by
  rcases h.2 with ⟨q, _⟩ | ⟨g', cap', cur, hv, h1, h2, h3, h4, _⟩
  · simp at q
  simp only [Value.slice.injEq, Option.some.injEq, Addr.mk.injEq] at hv
  obtain ⟨⟨rfl, _⟩, _, rfl⟩ := hv
  exact ⟨h3, h4⟩

/-- slices.Reverse of a row of numbers of the call's own. -/
theorem reverseInt_c {w : World} {B : Nat} {v : Value} {n : Nat} {L : List Nat} (h : w.ownsRow B 3 1 v n (ints L)) (hn : L.length = n) (hlen : n ≤ 4611686018427387904) :
    Calls Try.prog 25 #[v] w fun r w' => r = .returned (.tuple #[]) ∧ w'.ownsRow B 3 1 v n (ints L.reverse) ∧ Keeps (fun k => v.ownBlock = some k) w w' := by
  subst hn
  by_cases hL : L = []
  · subst hL
    obtain ⟨a, c, rfl⟩ := own_len h
    refine (Any.slices_Reverse_int_empty revInt_lays a c w).mono ?_
    rintro r w' ⟨rfl, rfl⟩
    exact ⟨rfl, h, Keeps.refl _ _⟩
  · obtain ⟨g, cap, rfl⟩ := own_form h (List.length_pos_iff.2 hL)
    have hc := (Nats.of_own h).cells hL
    obtain ⟨b, off, cap', hv, hcell⟩ := hc
    simp only [Value.slice.injEq, Option.some.injEq, Addr.mk.injEq] at hv
    obtain ⟨⟨rfl, rfl, _⟩, _, rfl⟩ := hv
    have := Any.slices_Reverse_int_cells revInt_lays g 0 L.length cap (L.map (fun (x : Nat) => (x : Int))) w (by simp) (by omega) (nats_cells hcell) (fun j _ => own_free h _)
    refine this.mono ?_
    rintro r w' ⟨rfl, q, rfl⟩
    have e1 : ((L.map (fun (x : Nat) => (x : Int))).take L.length).reverse.map (Value.int .i64) = ints L.reverse := by
      rw [List.take_of_length_le (by simp), ← List.map_reverse, ints_map]
    rw [e1]
    have hl : (ints L.reverse).length = L.length := by simp [ints]
    refine ⟨rfl, ?_, ?_⟩
    · have := own_over (w := w) (w' := (w.drewN q).setCells g 0 (ints L.reverse)) (m := L.length) h hl (Nat.le_refl _) ?_
      · rw [List.take_of_length_le (by omega)] at this; exact this
      · exact heap_sets g (ints L.reverse) 0 rfl
    · exact (keeps_setCells g (ints L.reverse) 0 w (w.drewN q) ((Keeps.refl _ w).drewN q)).mono (fun k _ hk => by subst hk; rfl)
/-- slices.Clone of a row of numbers. -/
theorem cloneInt_c {w : World} {v : Value} {L : List Nat} (h : Nats w v L) (hlen : L.length ≤ 1099511627776) :
    Calls Try.prog 24 #[v] w fun r w' => ∃ v', r = .returned v' ∧ w'.ownsRow w.heap.size 3 1 v' L.length (ints L) ∧ Below w.heap.size w w' := by
  by_cases hL : L = []
  · subst hL
    obtain ⟨a, c, rfl⟩ := h.form
    cases a with
    | none =>
      refine (Any.slices_Clone_int_nil cloneInt_lays 0 c w).mono ?_
      rintro r w' ⟨rfl, rfl⟩
      exact ⟨_, rfl, World.ownsRow_nil _ _ _ _, Below.refl _ _⟩
    | some a =>
      refine (Any.slices_Clone_int_zero cloneInt_lays a c w).mono ?_
      rintro r w' ⟨v', rfl, ho, _, hb⟩
      exact ⟨v', rfl, ho, hb⟩
  · obtain ⟨b, off, cap, rfl, hcell⟩ := h.cells hL
    have := Any.slices_Clone_int cloneInt_lays b off L.length cap (L.map (fun (x : Nat) => (x : Int))) w (by simp) (by omega) (nats_cells hcell)
    refine this.mono ?_
    rintro r w' ⟨v', rfl, ho, _, hb⟩
    rw [List.take_of_length_le (by simp), ints_map] at ho
    exact ⟨v', rfl, ho, hb⟩
end Bead
end Go.Proofs.Ytidnmanljdadaaa
