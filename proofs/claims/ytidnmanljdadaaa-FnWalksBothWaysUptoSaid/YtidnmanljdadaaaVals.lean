/- Values: what impl.plain makes of one, and what impl.told says of it; for every value. -/
import Derived.Test.YtidnmanljdadaaaModel
import Derived.Test.YtidnmanljdadaaaLWalk4
set_option linter.all false
namespace Go.Proofs.Ytidnmanljdadaaa
open Go.RowKit
namespace Bead
set_option maxRecDepth 100000

def Vl.ok (v : Vl) : Prop := -9223372036854775808 ≤ v.kind ∧ v.kind ≤ 9223372036854775807 ∧ -9223372036854775808 ≤ v.n ∧ v.n ≤ 9223372036854775807
def Vl.cells (v : Vl) : List Value := [.int .i64 v.kind, .int .i64 v.n, .string v.s]
def Vl.agg (v : Vl) : Value := .agg #[.int .i64 v.kind, .int .i64 v.n, .string v.s]

/-- The value x of type any is one that impl.plain makes of a value whose relevant parts are v. -/
def VRep (w : World) (v : Vl) (x : Value) : Prop :=
  (v.kind = 1 ∧ v.s = ByteArray.empty ∧ x = .iface 3 (.int .i64 v.n)) ∨
  (v.kind = 2 ∧ v.n = 0 ∧ x = .iface 9 (.string v.s)) ∨
  (v.kind = 3 ∧ v.s = ByteArray.empty ∧ ((v.n = 0 ∧ x = .iface 4 (.bool false)) ∨ (v.n = 1 ∧ x = .iface 4 (.bool true)))) ∨
  (v.kind = 4 ∧ v.s = ByteArray.empty ∧ x = .iface 137 (.int .u64 (IntKind.u64.wrap v.n)) ∧ -9223372036854775808 ≤ v.n ∧ v.n ≤ 9223372036854775807) ∨
  (v.kind = 5 ∧ x = .iface 155 (.agg #[.int .i64 v.n, .string v.s])) ∨
  (v.kind = 6 ∧ v.s = ByteArray.empty ∧ ∃ b c0 c2, x = .iface 156 (.pointer (some ⟨b, 1, none⟩)) ∧ w.heap[b]? = some (.cells #[c0, .int .i64 v.n, c2] 30 (0, 0))) ∨
  (v = Vl.zero ∧ x = .nilIface)

theorem VRep.any {w : World} {v : Vl} {x : Value} (h : VRep w v x) : IsAny x := by
  rcases h with ⟨_, _, rfl⟩ | ⟨_, _, rfl⟩ | ⟨_, _, ⟨_, rfl⟩ | ⟨_, rfl⟩⟩ | ⟨_, _, rfl, _⟩ | ⟨_, rfl⟩ | ⟨_, _, b, c0, c2, rfl, _⟩ | ⟨_, rfl⟩
  all_goals first | exact .inl rfl | exact .inr ⟨_, _, rfl⟩

/-- It stays so while no block with a value's parts is written. -/
theorem VRep.keep {w w' : World} {v : Vl} {x : Value} (h : VRep w v x) (hk : ∀ (b : Nat) (c : Array Value), w.heap[b]? = some (Obj.cells c 30 (0, 0)) → w'.heap[b]? = some (Obj.cells c 30 (0, 0))) : VRep w' v x := by
  rcases h with h | h | h | h | h | ⟨h1, h2, b, c0, c2, h3, h4⟩ | h
  · exact .inl h
  · exact .inr (.inl h)
  · exact .inr (.inr (.inl h))
  · exact .inr (.inr (.inr (.inl h)))
  · exact .inr (.inr (.inr (.inr (.inl h))))
  · exact .inr (.inr (.inr (.inr (.inr (.inl ⟨h1, h2, b, c0, c2, h3, hk b _ h4⟩)))))
  · exact .inr (.inr (.inr (.inr (.inr (.inr h)))))

theorem heap_alloc_keep {w : World} {o : Obj} {b : Nat} {x : Obj} (h : w.heap[b]? = some x) : (w.alloc o).heap[b]? = some x := by
  rw [Below.heap_alloc _ _ _ (Array.getElem?_eq_some_iff.1 h).1]; exact h

/-- The block in which the argument lies. -/
def valBlock (v : Vl) : Obj := .cells #[.int .i64 v.kind, .int .i64 v.n, .string v.s] 30

set_option maxHeartbeats 1000000 in
theorem plain_c (v : Vl) (hv : v.ok) (w : World) : Calls Try.prog 57 #[v.agg] w fun r w' =>
    (∃ x, r = .returned x ∧ VRep w' (canon v) x) ∧ w' = w.alloc (valBlock v) := by
  obtain ⟨k, n, s⟩ := v
  obtain ⟨h1, h2, h3, h4⟩ := hv
  simp only [Vl.agg, valBlock] at h1 h2 h3 h4 ⊢
  by_cases e1 : k = 1
  · subst e1
    go_enter Try.func57, Try.ntmps57
    go_wp2
    go_ret
    exact ⟨⟨_, rfl, .inl ⟨by simp [canon], by simp [canon], by simp [canon]⟩⟩, rfl⟩
  by_cases e2 : k = 2
  · subst e2
    go_enter Try.func57, Try.ntmps57
    go_wp2
    go_ret
    exact ⟨⟨_, rfl, .inr (.inl ⟨by simp [canon], by simp [canon], by simp [canon]⟩)⟩, rfl⟩
  by_cases e3 : k = 3
  · subst e3
    by_cases e0 : n = 0
    · subst e0
      go_enter Try.func57, Try.ntmps57
      go_wp2
      go_ret
      exact ⟨⟨_, rfl, .inr (.inr (.inl ⟨by simp [canon], by simp [canon], .inl ⟨by simp [canon], rfl⟩⟩))⟩, rfl⟩
    · have q : (n != 0) = true := by simpa using e0
      go_enter Try.func57, Try.ntmps57
      go_wp2
      go_ret
      exact ⟨⟨_, rfl, .inr (.inr (.inl ⟨by simp [canon, e0], by simp [canon, e0], .inr ⟨by simp [canon, e0], rfl⟩⟩))⟩, rfl⟩
  by_cases e4 : k = 4
  · subst e4
    go_enter Try.func57, Try.ntmps57
    go_wp2
    go_ret
    exact ⟨⟨_, rfl, .inr (.inr (.inr (.inl ⟨by simp [canon], by simp [canon], rfl, by simp [canon]; exact ⟨h3, h4⟩⟩)))⟩, rfl⟩
  by_cases e5 : k = 5
  · subst e5
    go_enter Try.func57, Try.ntmps57
    go_wp2
    go_ret
    exact ⟨⟨_, rfl, .inr (.inr (.inr (.inr (.inl ⟨by simp [canon], by simp [canon]⟩))))⟩, rfl⟩
  by_cases e6 : k = 6
  · subst e6
    go_enter Try.func57, Try.ntmps57
    go_wp2
    go_ret
    refine ⟨⟨_, rfl, .inr (.inr (.inr (.inr (.inr (.inl ⟨by simp [canon], by simp [canon], w.heap.size, .int .i64 6, .string s, rfl, ?_⟩)))))⟩, rfl⟩
    rw [heap_alloc_new]; simp [canon]
  · have q1 : (k == 1) = false := by simpa using e1
    have q2 : (k == 2) = false := by simpa using e2
    have q3 : (k == 3) = false := by simpa using e3
    have q4 : (k == 4) = false := by simpa using e4
    have q5 : (k == 5) = false := by simpa using e5
    have q6 : (k == 6) = false := by simpa using e6
    go_enter Try.func57, Try.ntmps57
    go_wp2
    go_ret
    exact ⟨⟨_, rfl, .inr (.inr (.inr (.inr (.inr (.inr ⟨by simp [canon, e1, e2, e3, e4, e5, e6], rfl⟩)))))⟩, rfl⟩
@[go_sem] theorem as_int_int (v : Value) (w : World) : (Instr.typeAssert (.iface 3 v) 20 3 true).run Try.prog w = .ok (.tuple #[v, .bool true]) w := by kernel_rfl
@[go_sem] theorem as_string_int (v : Value) (w : World) : (Instr.typeAssert (.iface 9 v) 20 3 true).run Try.prog w = .ok (.tuple #[.int .i64 0, .bool false]) w := by kernel_rfl
@[go_sem] theorem as_string_string (v : Value) (w : World) : (Instr.typeAssert (.iface 9 v) 20 9 true).run Try.prog w = .ok (.tuple #[v, .bool true]) w := by kernel_rfl
@[go_sem] theorem as_bool_int (v : Value) (w : World) : (Instr.typeAssert (.iface 4 v) 20 3 true).run Try.prog w = .ok (.tuple #[.int .i64 0, .bool false]) w := by kernel_rfl
@[go_sem] theorem as_bool_string (v : Value) (w : World) : (Instr.typeAssert (.iface 4 v) 20 9 true).run Try.prog w = .ok (.tuple #[.string ByteArray.empty, .bool false]) w := by kernel_rfl
@[go_sem] theorem as_bool_bool (v : Value) (w : World) : (Instr.typeAssert (.iface 4 v) 20 4 true).run Try.prog w = .ok (.tuple #[v, .bool true]) w := by kernel_rfl
@[go_sem] theorem as_uint64_int (v : Value) (w : World) : (Instr.typeAssert (.iface 137 v) 20 3 true).run Try.prog w = .ok (.tuple #[.int .i64 0, .bool false]) w := by kernel_rfl
@[go_sem] theorem as_uint64_string (v : Value) (w : World) : (Instr.typeAssert (.iface 137 v) 20 9 true).run Try.prog w = .ok (.tuple #[.string ByteArray.empty, .bool false]) w := by kernel_rfl
@[go_sem] theorem as_uint64_bool (v : Value) (w : World) : (Instr.typeAssert (.iface 137 v) 20 4 true).run Try.prog w = .ok (.tuple #[.bool false, .bool false]) w := by kernel_rfl
@[go_sem] theorem as_uint64_uint64 (v : Value) (w : World) : (Instr.typeAssert (.iface 137 v) 20 137 true).run Try.prog w = .ok (.tuple #[v, .bool true]) w := by kernel_rfl
@[go_sem] theorem as_pair_int (v : Value) (w : World) : (Instr.typeAssert (.iface 155 v) 20 3 true).run Try.prog w = .ok (.tuple #[.int .i64 0, .bool false]) w := by kernel_rfl
@[go_sem] theorem as_pair_string (v : Value) (w : World) : (Instr.typeAssert (.iface 155 v) 20 9 true).run Try.prog w = .ok (.tuple #[.string ByteArray.empty, .bool false]) w := by kernel_rfl
@[go_sem] theorem as_pair_bool (v : Value) (w : World) : (Instr.typeAssert (.iface 155 v) 20 4 true).run Try.prog w = .ok (.tuple #[.bool false, .bool false]) w := by kernel_rfl
@[go_sem] theorem as_pair_uint64 (v : Value) (w : World) : (Instr.typeAssert (.iface 155 v) 20 137 true).run Try.prog w = .ok (.tuple #[.int .u64 0, .bool false]) w := by kernel_rfl
@[go_sem] theorem as_pair_pair (v : Value) (w : World) : (Instr.typeAssert (.iface 155 v) 20 155 true).run Try.prog w = .ok (.tuple #[v, .bool true]) w := by kernel_rfl
@[go_sem] theorem as_pint_int (v : Value) (w : World) : (Instr.typeAssert (.iface 156 v) 20 3 true).run Try.prog w = .ok (.tuple #[.int .i64 0, .bool false]) w := by kernel_rfl
@[go_sem] theorem as_pint_string (v : Value) (w : World) : (Instr.typeAssert (.iface 156 v) 20 9 true).run Try.prog w = .ok (.tuple #[.string ByteArray.empty, .bool false]) w := by kernel_rfl
@[go_sem] theorem as_pint_bool (v : Value) (w : World) : (Instr.typeAssert (.iface 156 v) 20 4 true).run Try.prog w = .ok (.tuple #[.bool false, .bool false]) w := by kernel_rfl
@[go_sem] theorem as_pint_uint64 (v : Value) (w : World) : (Instr.typeAssert (.iface 156 v) 20 137 true).run Try.prog w = .ok (.tuple #[.int .u64 0, .bool false]) w := by kernel_rfl
@[go_sem] theorem as_pint_pair (v : Value) (w : World) : (Instr.typeAssert (.iface 156 v) 20 155 true).run Try.prog w = .ok (.tuple #[.agg #[.int .i64 0, .string ByteArray.empty], .bool false]) w := by kernel_rfl
@[go_sem] theorem as_pint_pint (v : Value) (w : World) : (Instr.typeAssert (.iface 156 v) 20 156 true).run Try.prog w = .ok (.tuple #[v, .bool true]) w := by kernel_rfl
@[go_sem] theorem as_nil_int (w : World) : (Instr.typeAssert .nilIface 20 3 true).run Try.prog w = .ok (.tuple #[.int .i64 0, .bool false]) w := by kernel_rfl
@[go_sem] theorem as_nil_string (w : World) : (Instr.typeAssert .nilIface 20 9 true).run Try.prog w = .ok (.tuple #[.string ByteArray.empty, .bool false]) w := by kernel_rfl
@[go_sem] theorem as_nil_bool (w : World) : (Instr.typeAssert .nilIface 20 4 true).run Try.prog w = .ok (.tuple #[.bool false, .bool false]) w := by kernel_rfl
@[go_sem] theorem as_nil_uint64 (w : World) : (Instr.typeAssert .nilIface 20 137 true).run Try.prog w = .ok (.tuple #[.int .u64 0, .bool false]) w := by kernel_rfl
@[go_sem] theorem as_nil_pair (w : World) : (Instr.typeAssert .nilIface 20 155 true).run Try.prog w = .ok (.tuple #[.agg #[.int .i64 0, .string ByteArray.empty], .bool false]) w := by kernel_rfl
@[go_sem] theorem as_nil_pint (w : World) : (Instr.typeAssert .nilIface 20 156 true).run Try.prog w = .ok (.tuple #[.pointer none, .bool false]) w := by kernel_rfl

theorem wrap_back (n : Int) (h1 : -9223372036854775808 ≤ n) (h2 : n ≤ 9223372036854775807) : wrap64 (IntKind.u64.wrap n) = n := by
  unfold wrap64
  simp [IntKind.wrap, IntKind.bits, IntKind.signed]
  omega

set_option maxHeartbeats 1000000 in
theorem told_c {w : World} {v : Vl} {x : Value} (h : VRep w v x) : Calls Try.prog 66 #[x] w fun r w' => r = .returned v.agg ∧ Below w.heap.size w w' := by
  obtain ⟨k, n, s⟩ := v
  rcases h with ⟨h1, h2, rfl⟩ | ⟨h1, h2, rfl⟩ | ⟨h1, h2, ⟨h3, rfl⟩ | ⟨h3, rfl⟩⟩ | ⟨h1, h2, rfl, h3, h4⟩ | ⟨h1, rfl⟩ | ⟨h1, h2, b, c0, c2, rfl, h3⟩ | ⟨h1, rfl⟩
  · simp only at h1 h2; subst h1; subst h2
    go_enter Try.func66, Try.ntmps66
    go_wp2
    exact bodyPost_ret (v := Vl.agg ⟨1, n, ByteArray.empty⟩) (by simp [results, Try.results66, go_sem, Vl.agg]; rfl) rfl ⟨rfl, (Below.refl _ _).alloc (Nat.le_refl _) _⟩
  · simp only at h1 h2; subst h1; subst h2
    go_enter Try.func66, Try.ntmps66
    go_wp2
    exact bodyPost_ret (v := Vl.agg ⟨2, 0, s⟩) (by simp [results, Try.results66, go_sem, Vl.agg]) rfl ⟨rfl, (Below.refl _ _).alloc (Nat.le_refl _) _⟩
  · simp only at h1 h2 h3; subst h1; subst h2; subst h3
    go_enter Try.func66, Try.ntmps66
    go_wp2
    exact bodyPost_ret (v := Vl.agg ⟨3, 0, ByteArray.empty⟩) (by simp [results, Try.results66, go_sem, Vl.agg]; rfl) rfl ⟨rfl, (Below.refl _ _).alloc (Nat.le_refl _) _⟩
  · simp only at h1 h2 h3; subst h1; subst h2; subst h3
    go_enter Try.func66, Try.ntmps66
    go_wp2
    exact bodyPost_ret (v := Vl.agg ⟨3, 1, ByteArray.empty⟩) (by simp [results, Try.results66, go_sem, Vl.agg]; rfl) rfl ⟨rfl, (Below.refl _ _).alloc (Nat.le_refl _) _⟩
  · simp only at h1 h2 h3 h4; subst h1; subst h2
    go_enter Try.func66, Try.ntmps66
    go_wp2
    exact bodyPost_ret (v := Vl.agg ⟨4, n, ByteArray.empty⟩) (by simp [results, Try.results66, go_sem, Vl.agg, wrap_back n h3 h4]; rfl) rfl ⟨rfl, (Below.refl _ _).alloc (Nat.le_refl _) _⟩
  · simp only at h1; subst h1
    go_enter Try.func66, Try.ntmps66
    go_wp2
    exact bodyPost_ret (v := Vl.agg ⟨5, n, s⟩) (by simp [results, Try.results66, go_sem, Vl.agg]) rfl ⟨rfl, ((Below.refl _ _).alloc (Nat.le_refl _) _).alloc (by simp) _⟩
  · simp only at h1 h2 h3; subst h1; subst h2
    have hc : ∀ o, (w.alloc o).cell? ⟨b, 1, none⟩ = some (.int .i64 n) := fun o => cell_of_heap (heap_alloc_keep h3) rfl
    clear h3
    go_enter Try.func66, Try.ntmps66
    go_wp2
    exact bodyPost_ret (v := Vl.agg ⟨6, n, ByteArray.empty⟩) (by simp [results, Try.results66, go_sem, Vl.agg]; rfl) rfl ⟨rfl, (Below.refl _ _).alloc (Nat.le_refl _) _⟩
  · simp only [Vl.zero, Vl.mk.injEq] at h1
    obtain ⟨rfl, rfl, rfl⟩ := h1
    go_enter Try.func66, Try.ntmps66
    go_wp2
    exact bodyPost_ret (v := Vl.agg ⟨0, 0, ByteArray.empty⟩) (by simp [results, Try.results66, go_sem, Vl.agg]; rfl) rfl ⟨rfl, (Below.refl _ _).alloc (Nat.le_refl _) _⟩
end Bead
end Go.Proofs.Ytidnmanljdadaaa
