/- laws.mirrored; FnMirror returns true. -/
import Derived.Test.YtdkahhocapepeaaLaws3
import Derived.Test.YtdkahhocapepeaaSim4
set_option linter.all false
namespace Go.Proofs.Ytdkahhocapepeaa
open Go.RowKit
namespace Bead
set_option maxRecDepth 100000

def notYet (j : Nat) (op : Int) : Prop := (1 ≤ j → op ≠ 3 ∧ op ≠ 4) ∧ (2 ≤ j → op ≠ 5 ∧ op ≠ 6) ∧ (3 ≤ j → op ≠ 7 ∧ op ≠ 8) ∧ (4 ≤ j → op ≠ 9 ∧ op ≠ 10) ∧ (5 ≤ j → op ≠ 12 ∧ op ≠ 13) ∧ (6 ≤ j → op ≠ 15 ∧ op ≠ 16) ∧ (7 ≤ j → op ≠ 18 ∧ op ≠ 19)
theorem mir_else {op : Int} (h : notYet 7 op) : mir op = op := by
  unfold notYet at h
  unfold mir
  (repeat' split) <;> omega

set_option maxHeartbeats 2000000 in
theorem mirrored_c {w : World} (op : Int) (h0 : 0 ≤ op) (h1 : op < 22) : Calls Try.prog 20 #[.int .i64 op] w fun r w' => r = .returned (.int .i64 (mir op)) ∧ Below w.heap.size w w' := by
  go_enter Try.func20, Try.ntmps20
  go_wp2_with fail
  go_loopg [14] 7 (fun n k wr => ∃ j, j + n = 7 ∧ k = .int .i64 j ∧ notYet j op ∧ Below w.heap.size w wr ∧ wr.heap[w.heap.size]? = some (.cells #[.int .i64 3, .int .i64 4, .int .i64 5, .int .i64 6, .int .i64 7, .int .i64 8, .int .i64 9, .int .i64 10, .int .i64 12, .int .i64 13, .int .i64 15, .int .i64 16, .int .i64 18, .int .i64 19] 68 (0, 0)))
  case atStart => exact ⟨0, rfl, rfl, by unfold notYet; omega, below1 w _, heap_alloc_new w _⟩
  case round =>
    obtain ⟨j, hj, rfl, hy, hb, hh⟩ := hrel
    have B := Lib.hid hb; have HH := Lib.hid hh
    have sz : w.heap.size < wr.heap.size := (Array.getElem?_eq_some_iff.1 hh).1
    have C : ∀ t y, (#[.int .i64 3, .int .i64 4, .int .i64 5, .int .i64 6, .int .i64 7, .int .i64 8, .int .i64 9, .int .i64 10, .int .i64 12, .int .i64 13, .int .i64 15, .int .i64 16, .int .i64 18, .int .i64 19] : Array Value).toList[t]? = some y → wr.cell? ⟨w.heap.size, t, none⟩ = some y := fun t y q => cell_of_heap hh (by rw [← Array.getElem?_toList]; exact q)
    clear hb hh
    rcases (show j = 0 ∨ j = 1 ∨ j = 2 ∨ j = 3 ∨ j = 4 ∨ j = 5 ∨ j = 6 ∨ j = 7 by omega) with rfl | rfl | rfl | rfl | rfl | rfl | rfl | rfl
    · have x0 := C 0 _ rfl; have x1 := C 1 _ rfl
      clear C
      obtain rfl : gk = 7 := by omega
      clear hj
      by_cases ea : op = 3
      · subst ea
        clear hy
        go_wp2
        go_ret
        exact ⟨rfl, B.out.alloc B.out.size _⟩
      by_cases eb : op = 4
      · subst eb
        clear hy
        go_wp2
        go_ret
        exact ⟨rfl, B.out.alloc B.out.size _⟩
      have HY : Hid (notYet 1 op) := by show notYet _ _; unfold notYet at hy ⊢; omega
      have qa : (op == 3) = false := by simpa using ea
      have qb : (op == 4) = false := by simpa using eb
      clear hy ea eb
      go_wp2
      go_roundg 6
      case measure => omega
      case rel => exact ⟨1, rfl, rfl, HY.out, B.out.alloc B.out.size _, heap_alloc_keep HH.out⟩
    · have x0 := C 2 _ rfl; have x1 := C 3 _ rfl
      clear C
      obtain rfl : gk = 6 := by omega
      clear hj
      by_cases ea : op = 5
      · subst ea
        clear hy
        go_wp2
        go_ret
        exact ⟨rfl, B.out.alloc B.out.size _⟩
      by_cases eb : op = 6
      · subst eb
        clear hy
        go_wp2
        go_ret
        exact ⟨rfl, B.out.alloc B.out.size _⟩
      have HY : Hid (notYet 2 op) := by show notYet _ _; unfold notYet at hy ⊢; omega
      have qa : (op == 5) = false := by simpa using ea
      have qb : (op == 6) = false := by simpa using eb
      clear hy ea eb
      go_wp2
      go_roundg 5
      case measure => omega
      case rel => exact ⟨2, rfl, rfl, HY.out, B.out.alloc B.out.size _, heap_alloc_keep HH.out⟩
    · have x0 := C 4 _ rfl; have x1 := C 5 _ rfl
      clear C
      obtain rfl : gk = 5 := by omega
      clear hj
      by_cases ea : op = 7
      · subst ea
        clear hy
        go_wp2
        go_ret
        exact ⟨rfl, B.out.alloc B.out.size _⟩
      by_cases eb : op = 8
      · subst eb
        clear hy
        go_wp2
        go_ret
        exact ⟨rfl, B.out.alloc B.out.size _⟩
      have HY : Hid (notYet 3 op) := by show notYet _ _; unfold notYet at hy ⊢; omega
      have qa : (op == 7) = false := by simpa using ea
      have qb : (op == 8) = false := by simpa using eb
      clear hy ea eb
      go_wp2
      go_roundg 4
      case measure => omega
      case rel => exact ⟨3, rfl, rfl, HY.out, B.out.alloc B.out.size _, heap_alloc_keep HH.out⟩
    · have x0 := C 6 _ rfl; have x1 := C 7 _ rfl
      clear C
      obtain rfl : gk = 4 := by omega
      clear hj
      by_cases ea : op = 9
      · subst ea
        clear hy
        go_wp2
        go_ret
        exact ⟨rfl, B.out.alloc B.out.size _⟩
      by_cases eb : op = 10
      · subst eb
        clear hy
        go_wp2
        go_ret
        exact ⟨rfl, B.out.alloc B.out.size _⟩
      have HY : Hid (notYet 4 op) := by show notYet _ _; unfold notYet at hy ⊢; omega
      have qa : (op == 9) = false := by simpa using ea
      have qb : (op == 10) = false := by simpa using eb
      clear hy ea eb
      go_wp2
      go_roundg 3
      case measure => omega
      case rel => exact ⟨4, rfl, rfl, HY.out, B.out.alloc B.out.size _, heap_alloc_keep HH.out⟩
    · have x0 := C 8 _ rfl; have x1 := C 9 _ rfl
      clear C
      obtain rfl : gk = 3 := by omega
      clear hj
      by_cases ea : op = 12
      · subst ea
        clear hy
        go_wp2
        go_ret
        exact ⟨rfl, B.out.alloc B.out.size _⟩
      by_cases eb : op = 13
      · subst eb
        clear hy
        go_wp2
        go_ret
        exact ⟨rfl, B.out.alloc B.out.size _⟩
      have HY : Hid (notYet 5 op) := by show notYet _ _; unfold notYet at hy ⊢; omega
      have qa : (op == 12) = false := by simpa using ea
      have qb : (op == 13) = false := by simpa using eb
      clear hy ea eb
      go_wp2
      go_roundg 2
      case measure => omega
      case rel => exact ⟨5, rfl, rfl, HY.out, B.out.alloc B.out.size _, heap_alloc_keep HH.out⟩
    · have x0 := C 10 _ rfl; have x1 := C 11 _ rfl
      clear C
      obtain rfl : gk = 2 := by omega
      clear hj
      by_cases ea : op = 15
      · subst ea
        clear hy
        go_wp2
        go_ret
        exact ⟨rfl, B.out.alloc B.out.size _⟩
      by_cases eb : op = 16
      · subst eb
        clear hy
        go_wp2
        go_ret
        exact ⟨rfl, B.out.alloc B.out.size _⟩
      have HY : Hid (notYet 6 op) := by show notYet _ _; unfold notYet at hy ⊢; omega
      have qa : (op == 15) = false := by simpa using ea
      have qb : (op == 16) = false := by simpa using eb
      clear hy ea eb
      go_wp2
      go_roundg 1
      case measure => omega
      case rel => exact ⟨6, rfl, rfl, HY.out, B.out.alloc B.out.size _, heap_alloc_keep HH.out⟩
    · have x0 := C 12 _ rfl; have x1 := C 13 _ rfl
      clear C
      obtain rfl : gk = 1 := by omega
      clear hj
      by_cases ea : op = 18
      · subst ea
        clear hy
        go_wp2
        go_ret
        exact ⟨rfl, B.out.alloc B.out.size _⟩
      by_cases eb : op = 19
      · subst eb
        clear hy
        go_wp2
        go_ret
        exact ⟨rfl, B.out.alloc B.out.size _⟩
      have HY : Hid (notYet 7 op) := by show notYet _ _; unfold notYet at hy ⊢; omega
      have qa : (op == 18) = false := by simpa using ea
      have qb : (op == 19) = false := by simpa using eb
      clear hy ea eb
      go_wp2
      go_roundg 0
      case measure => omega
      case rel => exact ⟨7, rfl, rfl, HY.out, B.out.alloc B.out.size _, heap_alloc_keep HH.out⟩
    · obtain rfl : gk = 0 := by omega
      have E := Lib.hid (mir_else hy)
      clear C hy hj
      go_wp2
      go_ret
      exact ⟨by rw [E.out]; rfl, B.out⟩

def mirC (c : Cl) : Cl := { c with op := mir c.op }
theorem mir_sims : ∀ cs : List Cl, CSims true Eq id id cs (cs.map mirC)
  | [] => trivial
  | c :: cs => ⟨⟨rfl, fun _ _ h => (nat_of h).symm, fun _ h => (nat_of h).symm, fun _ h => (nat_of h).symm, fun _ h => (nat_of h).symm, fun _ => rfl⟩, mir_sims cs⟩
theorem mir_run {cs : List Cl} (h : okFrom 500 Md.init cs = true) : okFrom 500 Md.init (cs.map mirC) = true ∧ ansFrom Md.init (cs.map mirC) = ansFrom Md.init cs := by
  have q := Sim.lock (rev := true) (V := Eq) (r := id) (l := id) (most' := 500) cs (cs.map mirC) (s := id) Sim.init WF.init WF.init h (mir_sims cs) (fun _ => rfl) (fun _ => rfl) (fun _ h => h)
  exact ⟨q.1, q.2.1.eq⟩
end Bead
end Go.Proofs.Ytdkahhocapepeaa
