/- laws.made, laws.exchanged. -/
import Derived.Test.YtdkahhocapepeaaLaws6
import Derived.Test.YtdkahhocapepeaaExch
set_option linter.all false
namespace Go.Proofs.Ytdkahhocapepeaa
open Go.RowKit
namespace Bead
set_option maxRecDepth 100000

theorem made_c (c : Cl) (w : World) : Calls Try.prog 17 #[c.agg'] w fun r w' => r = .returned (.bool (decide (c.op = 0 ∨ c.op = 1))) ∧ Below w.heap.size w w' := by
  unfold Cl.agg'
  by_cases h0 : c.op = 0
  · rw [h0]
    go_enter Try.func17, Try.ntmps17
    go_wp2
    go_ret
    exact ⟨rfl, below1 _ _⟩
  by_cases h1 : c.op = 1
  · rw [h1]
    go_enter Try.func17, Try.ntmps17
    go_wp2
    go_ret
    exact ⟨rfl, below1 _ _⟩
  · have e : decide (c.op = 0 ∨ c.op = 1) = false := by simp [h0, h1]
    have q0 : (c.op == 0) = false := by simpa using h0
    have q1 : (c.op == 1) = false := by simpa using h1
    rw [e]
    clear e
    go_enter Try.func17, Try.ntmps17
    go_wp2
    go_ret
    exact ⟨rfl, below1 _ _⟩
theorem exchanged_c (n : Int) (w : World) : Calls Try.prog 19 #[.int .i64 n] w fun r w' => r = .returned (.int .i64 (exch n)) ∧ w' = w := by
  by_cases h0 : n = 0
  · subst h0
    go_enter Try.func19, Try.ntmps19
    go_wp2
    go_ret
    exact ⟨rfl, rfl⟩
  by_cases h1 : n = 1
  · subst h1
    go_enter Try.func19, Try.ntmps19
    go_wp2
    go_ret
    exact ⟨rfl, rfl⟩
  · have e : exch n = n := by unfold exch; rw [if_neg (by omega)]
    have q0 : (n == 0) = false := by simpa using h0
    have q1 : (n == 1) = false := by simpa using h1
    rw [e]
    clear e
    go_enter Try.func19, Try.ntmps19
    go_wp2
    go_ret
    exact ⟨rfl, rfl⟩
end Bead
end Go.Proofs.Ytdkahhocapepeaa
