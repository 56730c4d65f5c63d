/- A row of calls that is changed in place. No code is walked here. -/
import Derived.Test.YtidnmanljdadaaaCalls
set_option linter.all false
namespace Go.Proofs.Ytidnmanljdadaaa
open Go.RowKit
namespace Bead

/-- One cell of one element of a row is replaced. -/
theorem flat_set {α : Type} (f : α → List Value) (sz : Nat) (hf : ∀ x, (f x).length = sz) : ∀ (l : List α) (i j : Nat) (x x' : α) (v : Value), l[i]? = some x → j < sz → f x' = (f x).set j v → (l.flatMap f).set (i * sz + j) v = (l.set i x').flatMap f
  | [], _, _, _, _, _, h, _, _ => by simp at h
  | y :: l, 0, j, x, x', v, h, hj, he => by
    simp at h; subst h
    rw [List.flatMap_cons, Nat.zero_mul, Nat.zero_add, List.set_append, if_pos (by rw [hf]; exact hj), List.set_cons_zero, List.flatMap_cons, he]
  | y :: l, i + 1, j, x, x', v, h, hj, he => by
    simp at h
    rw [List.flatMap_cons, List.set_append, if_neg (by rw [hf, Nat.succ_mul]; omega), hf, show (i + 1) * sz + j - sz = i * sz + j by rw [Nat.succ_mul]; omega, flat_set f sz hf l i j x x' v h hj he, List.set_cons_succ, List.flatMap_cons]
theorem own_set1 {w : World} {B b n cap : Nat} {cs : List Cl} (h : w.ownsRow B 32 8 (.slice (some ⟨b, 0, none⟩) n cap) n (cs.flatMap Cl.cells)) {j t : Nat} {c c' : Cl} {v : Value} (hc : cs[j]? = some c) (ht : t < 8) (he : c'.cells = c.cells.set t v) :
    (w.setCell ⟨b, j * 8 + t, none⟩ v).ownsRow B 32 8 (.slice (some ⟨b, 0, none⟩) n cap) n ((cs.set j c').flatMap Cl.cells) := by
  have := (h.stored (j * 8 + t) v).1
  rw [flat_set Cl.cells 8 Cl.cells_length cs j t c c' v hc ht he] at this
  exact this

/-- The first j calls are changed. -/
def chg (f : Cl → Cl) (cs : List Cl) (j : Nat) : List Cl := (cs.take j).map f ++ cs.drop j
theorem chg_zero (f : Cl → Cl) (cs : List Cl) : chg f cs 0 = cs := by simp [chg]
theorem chg_all (f : Cl → Cl) (cs : List Cl) : chg f cs cs.length = cs.map f := by simp [chg]
theorem chg_len (f : Cl → Cl) (cs : List Cl) (j : Nat) : (chg f cs j).length = cs.length := by simp [chg]; omega
theorem chg_get {f : Cl → Cl} {cs : List Cl} {j : Nat} (h : j < cs.length) : (chg f cs j)[j]? = some cs[j] := by
  unfold chg
  rw [List.getElem?_append_right (by simp; omega)]
  simp [Nat.min_eq_left (Nat.le_of_lt h)]
theorem chg_succ {f : Cl → Cl} {cs : List Cl} {j : Nat} (h : j < cs.length) : chg f cs (j + 1) = (chg f cs j).set j (f cs[j]) := by
  unfold chg
  rw [List.set_append, if_neg (by simp; omega)]
  have : j - ((cs.take j).map f).length = 0 := by simp; omega
  rw [this, List.drop_eq_getElem_cons h, List.set_cons_zero, List.take_succ_eq_append_getElem h, List.map_append]
  simp

structure ZAt (w wr : World) (f : Cl → Cl) (cs : List Cl) (v : Value) (j : Nat) : Prop where
  own : wr.ownsRow w.heap.size 32 8 v cs.length ((chg f cs j).flatMap Cl.cells)
  keeps : Keeps (fun k => v.ownBlock = some k) w wr
end Bead
end Go.Proofs.Ytidnmanljdadaaa
