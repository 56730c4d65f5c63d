/- FnKeepsValues: for every two values, what an element is given is read from it again, and Remove returns it. -/
import Derived.Test.YtdmichkekipdpaaPlay
import Derived.Lib.QuietBelow
import Derived.Deep.DeepCutAuto
import Derived.Laws.StructEq
set_option linter.all false
namespace Go.Proofs.Ytdmichkekipdpaa
open Go.RowKit Go.Sort
namespace Bead
set_option maxRecDepth 100000

def keepScript (v u : Vl) : List Cl :=
  [⟨0, 0, 0, 0, 0, Vl.zero⟩, ⟨4, 0, 0, 0, 0, v⟩, ⟨20, 0, 0, 1, 0, Vl.zero⟩, ⟨21, 0, 0, 1, 0, u⟩, ⟨20, 0, 0, 1, 0, Vl.zero⟩, ⟨11, 0, 0, 1, 0, Vl.zero⟩, ⟨21, 0, 0, 1, 0, v⟩, ⟨11, 0, 0, 1, 0, Vl.zero⟩, ⟨2, 0, 0, 0, 0, u⟩, ⟨20, 0, 0, 8, 0, Vl.zero⟩, ⟨2, 0, 0, 0, 0, v⟩, ⟨20, 0, 0, 10, 0, Vl.zero⟩]

theorem keep_ok (v u : Vl) : okFrom 10 Md.init (keepScript v u) = true := by
  rfl
theorem keep_ans (v u : Vl) : ansFrom Md.init (keepScript v u) =
    [An.no, ⟨1, 0, Vl.zero⟩, ⟨-1, 0, canon v⟩, An.no, ⟨-1, 0, canon u⟩, ⟨-1, 0, canon u⟩, An.no, ⟨-1, 0, canon v⟩, ⟨8, 0, Vl.zero⟩, ⟨-1, 0, canon u⟩, ⟨10, 0, Vl.zero⟩, ⟨-1, 0, canon v⟩] := by
  rfl

def kindOf (v : Vl) : Int := if v.kind < 0 ∨ v.kind > 6 then 0 else v.kind
theorem canon_kind (v : Vl) : (canon v).kind = kindOf v := by
  unfold canon kindOf
  (repeat' split) <;> (try simp only [Vl.zero]) <;> omega

theorem kind_c (v : Vl) (w : World) : Calls Try.prog 22 #[v.agg] w fun r w' => r = .returned (.int .i64 (kindOf v)) ∧ Below w.heap.size w w' := by
  unfold Vl.agg
  by_cases h1 : v.kind < 0
  · have e1 : kindOf v = 0 := by unfold kindOf; rw [if_pos (.inl h1)]
    rw [e1]
    clear e1
    go_enter Try.func22, Try.ntmps22
    go_wp2
    go_ret
    exact ⟨rfl, (Below.refl _ _).alloc (Nat.le_refl _) _⟩
  · have d1 : decide (v.kind < 0) = false := by simpa using h1
    by_cases h2 : 6 < v.kind
    · have e1 : kindOf v = 0 := by unfold kindOf; rw [if_pos (.inr h2)]
      rw [e1]
      clear e1
      go_enter Try.func22, Try.ntmps22
      go_wp2
      go_ret
      exact ⟨rfl, (Below.refl _ _).alloc (Nat.le_refl _) _⟩
    · have e1 : kindOf v = v.kind := by unfold kindOf; rw [if_neg (by omega)]
      rw [e1]
      clear e1
      go_enter Try.func22, Try.ntmps22
      go_wp2
      go_ret
      exact ⟨rfl, (Below.refl _ _).alloc (Nat.le_refl _) _⟩

theorem sl_at (W : World) (l : List Value) (t : TypeId) (n cap k : Nat) (hk : W.heap.size = k) : Sl (W.alloc (.cells l.toArray t)) (.slice (some ⟨k, 0, none⟩) n cap) n l := by
  subst hk; exact sl_new W l t n cap

theorem two_new (w : World) (A C : Obj) : ((w.alloc A).alloc C).heap[w.heap.size]? = some A ∧ ((w.alloc A).alloc C).heap[w.heap.size + 1]? = some C := by
  refine ⟨heap_alloc_keep (heap_alloc_new w A), ?_⟩
  have := heap_alloc_new (w.alloc A) C
  have e : (w.alloc A).heap.size = w.heap.size + 1 := by simp
  rwa [e] at this

end Bead
end Go.Proofs.Ytdmichkekipdpaa
