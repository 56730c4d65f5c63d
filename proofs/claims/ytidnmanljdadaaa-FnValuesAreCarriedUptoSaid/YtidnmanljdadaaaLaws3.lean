/- laws.agree; FnZeroIsNew returns true. -/
import Derived.Test.YtidnmanljdadaaaRowSet
set_option linter.all false
namespace Go.Proofs.Ytidnmanljdadaaa
open Go.RowKit
namespace Bead
set_option maxRecDepth 100000

set_option maxHeartbeats 1000000 in
theorem agree_c {w : World} {va vb vo : Value} {A : List An} {O : List Bool} (ha : Sl w va A.length (A.flatMap An.cells)) (hb : Sl w vb A.length (A.flatMap An.cells)) (ho : Sl w vo A.length (O.flatMap fun b => [Value.bool b])) (hO : O.length = A.length) (hlen : A.length ≤ 4611686018427387904) :
    Calls Try.prog 12 #[va, vb, vo] w fun r w' => r = .returned (.bool true) ∧ ∃ d, w' = w.drewN d := by
  have HA := Lib.hid ha; have HB := Lib.hid hb; have HO := Lib.hid ho; have LO := Lib.hid hO
  obtain ⟨aa, ca, rfl, _⟩ := ha
  obtain ⟨ab, cb, rfl, _⟩ := hb
  obtain ⟨ao, co, rfl, _⟩ := ho
  clear hO
  go_enter Try.func12, Try.ntmps12
  go_wp2_with fail
  go_loopg [22] A.length (fun n k wr => ∃ j, j + n = A.length ∧ k = .int .i64 j ∧ ∃ d, wr = w.drewN d)
  case atStart => exact ⟨0, by omega, rfl, 0, rfl⟩
  case round =>
    obtain ⟨j, hj, rfl, d, rfl⟩ := hrel
    by_cases hk0 : gk = 0
    · subst hk0
      obtain rfl : j = A.length := by omega
      clear hj
      go_wp2
      go_ret
      exact ⟨rfl, d, rfl⟩
    · have hjl : j < A.length := by omega
      have hjO : j < O.length := by rw [LO.out]; exact hjl
      obtain ⟨x, hget⟩ : ∃ x, A[j]? = some x := ⟨_, List.getElem?_eq_getElem hjl⟩
      obtain ⟨y, hgeto⟩ : ∃ y, O[j]? = some y := ⟨_, List.getElem?_eq_getElem hjO⟩
      have hneA : A ≠ [] := by intro q; subst q; simp at hjl
      have hneO : O ≠ [] := by intro q; subst q; simp at hjO
      obtain ⟨b1, o1, c1, hv1, cell1⟩ := HA.out.elem An.cells_length (by decide) hneA
      obtain ⟨b2, o2, c2, hv2, cell2⟩ := HB.out.elem An.cells_length (by decide) hneA
      have HO' : Sl w (.slice ao A.length co) O.length (O.flatMap fun b => [Value.bool b]) := by rw [LO.out]; exact HO.out
      obtain ⟨b3, o3, c3, hv3, cell3⟩ := HO'.elem (f := fun b => [Value.bool b]) (sz := 1) (fun _ => rfl) (by decide) hneO
      rw [LO.out] at hv3
      simp only [Value.slice.injEq] at hv1 hv2 hv3
      obtain ⟨rfl, hz1, rfl⟩ := hv1
      obtain ⟨rfl, hz2, rfl⟩ := hv2
      obtain ⟨rfl, hz3, rfl⟩ := hv3
      clear hz1 hz2 hz3 HO'
      have e1 : ∀ t y, x.cells[t]? = some y → w.cell? ⟨b1, o1 + j * 5 + t, none⟩ = some y := fun t y hy => by rw [Nat.add_assoc]; exact cell1 j x hget t y hy
      have e2 : ∀ t y, x.cells[t]? = some y → w.cell? ⟨b2, o2 + j * 5 + t, none⟩ = some y := fun t y hy => by rw [Nat.add_assoc]; exact cell2 j x hget t y hy
      have e3 : w.cell? ⟨b3, o3 + j, none⟩ = some (.bool y) := by have := cell3 j y hgeto 0 _ rfl; simpa using this
      have s0 := e1 0 _ rfl; have s1 := e1 1 _ rfl; have s2 := e1 2 _ rfl; have s3 := e1 3 _ rfl; have s4 := e1 4 _ rfl
      have t0 := e2 0 _ rfl; have t1 := e2 1 _ rfl; have t2 := e2 2 _ rfl; have t3 := e2 3 _ rfl; have t4 := e2 4 _ rfl
      simp only [Nat.add_zero] at s0 t0
      have HJ := Lib.hid hj
      clear hj hget hgeto hjO e1 e2 cell1 cell2 cell3 hneA hneO
      cases y
      all_goals
        go_wp2_with fail
        go_quiet (fail)
        go_wp2
        go_roundg (gk - 1)
        case measure => omega
        case rel => exact ⟨j + 1, by have := HJ.out; omega, by go_num, _, rfl⟩

/-- A list made by New becomes a zero value, and the other way round. -/
def swp (c : Cl) : Cl := if c.op = 0 then { c with op := 1 } else if c.op = 1 then { c with op := 0 } else c
theorem step_swp (m : Md) (c : Cl) : m.step (swp c) = m.step c := by
  unfold swp
  split
  · rename_i h; simp [Md.step, Md.look, h]
  · split
    · rename_i h; simp [Md.step, Md.look, h]
    · rfl
theorem perm_swp (most : Nat) (m : Md) (c : Cl) : m.permitted most (swp c) = m.permitted most c := by
  unfold swp
  split
  · rename_i h; simp [Md.permitted, usesList, usesOther, usesElem, usesMark, makes, h]
  · split
    · rename_i h; simp [Md.permitted, usesList, usesOther, usesElem, usesMark, makes, h]
    · rfl
theorem ans_swp (cs : List Cl) : ∀ m, ansFrom m (cs.map swp) = ansFrom m cs := by
  induction cs with
  | nil => intro m; rfl
  | cons c cs ih => intro m; simp only [List.map_cons, ansFrom, step_swp, ih]
theorem ok_swp (most : Nat) (cs : List Cl) : ∀ m, okFrom most m (cs.map swp) = okFrom most m cs := by
  induction cs with
  | nil => intro m; rfl
  | cons c cs ih => intro m; simp only [List.map_cons, okFrom, step_swp, perm_swp, ih]

end Bead
end Go.Proofs.Ytidnmanljdadaaa
