/- FnForeignChangesNothing: the plain law. -/
import Derived.Test.YtdmichkekipdpaaScene
import Derived.Test.YtdmichkekipdpaaLast4
set_option linter.all false
namespace Go.Proofs.Ytdmichkekipdpaa
open Go.RowKit
namespace Bead
set_option maxRecDepth 100000

/-- What the law asks of a call: one of its elements is not in the list, or it moves an element beside itself. -/
def Strange (m : Md) (l : Nat) (c : Cl) : Prop :=
  ((c.op = 5 ∨ c.op = 6 ∨ c.op = 9 ∨ c.op = 10) ∧ ∃ x, m.ret c.mark.toNat = some x ∧ x ∉ m.seq l) ∨ (7 ≤ c.op ∧ ∃ e, m.ret c.elem.toNat = some e ∧ e ∉ m.seq l) ∨
  ((c.op = 9 ∨ c.op = 10) ∧ ∃ e, m.ret c.elem.toNat = some e ∧ m.ret c.mark.toNat = some e)
theorem strange_step {m : Md} {c : Cl} {l : Nat} (hl : c.list.toNat = l) (h5 : 5 ≤ c.op) (h11 : c.op ≤ 11) (hf : Strange m l c) : (m.step c).1 = m.grow := by
  have h3 : 3 ≤ c.op ∧ c.op ≤ 14 := ⟨by omega, by omega⟩
  have ins : ∀ i b, (c.op = 5 ∨ c.op = 6) → (m.grow.insert i c b).1 = m.grow := fun i b q => by
    rcases hf with ⟨_, x, hx, hn⟩ | ⟨h, _⟩ | ⟨h, _⟩
    · unfold Md.insert
      rw [show m.grow.ret c.mark.toNat = some x from hx]
      simp only
      rw [if_neg (show ¬ x ∈ m.grow.seq c.list.toNat by rw [hl]; exact hn)]
    · omega
    · omega
  unfold Md.step
  rw [if_pos h3]
  unfold Md.change
  rw [if_neg (by omega), if_neg (by omega)]
  by_cases q5 : c.op = 5
  · rw [if_pos q5]; exact ins _ _ (.inl q5)
  rw [if_neg q5]
  by_cases q6 : c.op = 6
  · rw [if_pos q6]; exact ins _ _ (.inr q6)
  rw [if_neg q6]
  by_cases q11 : c.op = 11
  · rw [if_neg (by omega), if_pos q11]
    rcases hf with ⟨h, _⟩ | ⟨_, e, he, hn⟩ | ⟨h, _⟩
    · omega
    · unfold Md.remove
      rw [show m.grow.ret c.elem.toNat = some e from he]
      simp only
      rw [if_neg (show ¬ e ∈ m.grow.seq c.list.toNat by rw [hl]; exact hn)]
    · omega
  rw [if_pos (by omega)]
  show m.grow.move c = m.grow
  unfold Md.move
  cases hr : m.grow.ret c.elem.toNat with
  | none => rfl
  | some e =>
    simp only
    by_cases he : e ∈ m.seq c.list.toNat
    · rw [if_pos (show e ∈ m.grow.seq c.list.toNat from he)]
      unfold Md.moveTo
      have hr' : m.ret c.elem.toNat = some e := hr
      rcases hf with ⟨h, x, hx, hn⟩ | ⟨_, e', he', hn⟩ | ⟨h, e', he', hx⟩
      · rw [if_neg (by omega), if_neg (by omega), show m.grow.ret c.mark.toNat = some x from hx]
        simp only
        rw [if_pos (.inr (show ¬ x ∈ m.seq c.list.toNat by rw [hl]; exact hn))]
      · rw [hr'] at he'; simp at he'; subst he'; rw [hl] at he; exact absurd he hn
      · rw [hr'] at he'; simp at he'; subst he'
        rw [if_neg (by omega), if_neg (by omega), show m.grow.ret c.mark.toNat = some e from hx]
        simp
    · rw [if_neg (show ¬ e ∈ m.grow.seq c.list.toNat from he)]
theorem strange_look {ns : List Cl} {l : Nat} (h : Scened ns l) {c : Cl} (h5 : 5 ≤ c.op) (h11 : c.op ≤ 11) (hf : Strange (runFrom Md.init ns) l c) (k : Nat) : Look k (runFrom Md.init (ns ++ [onL l c])) (runFrom Md.init ns) := by
  rw [runFrom_append]
  show Look k ((runFrom Md.init ns).step (onL l c)).1 _
  rw [strange_step (l := l) (by simp [onL]) (by simpa [onL] using h5) (by simpa [onL] using h11) (by simpa [Strange, onL] using hf)]
  refine ⟨rfl, fun _ _ => rfl, fun e he => ?_⟩
  obtain ⟨n, hn⟩ := h.named k e he
  exact ⟨n, hn, hn⟩
/-- An element whose name is none of the list's names is not in the list. -/
theorem not_in_of_name {ns : List Cl} {l : Nat} {e k : Nat} (hk : (runFrom Md.init ns).fst e = some k) (hn : k ∉ (runFrom Md.init ns).names ((runFrom Md.init ns).seq l)) : e ∉ (runFrom Md.init ns).seq l := fun he => by
  refine hn ?_
  unfold Md.names
  refine List.mem_map.2 ⟨e, he, ?_⟩
  unfold Md.name
  rw [hk]; rfl
set_option maxHeartbeats 4000000 in
theorem foreign1_c {w : World} {b : Nat} {vs ve : Value} {ns : List Cl} {l i e : Nat} {L : List Nat} (BX : w.heap[b]? = some (.cells #[vs, .int .i64 (l : Nat), ve] 34 (0, 0))) (s : Scr w vs ns) (hok : okFrom 500 Md.init ns = true) (hr : (runFrom Md.init ns).ret i = some e) (hN : Nats w ve L) (hL : L.length ≤ 4611686018427387904) (hn : ns.length ≤ 549755813888) :
    Calls Try.prog 34 #[.int .i64 i, .pointer (some ⟨b, 0, none⟩)] w fun r w' => ∃ k : Nat, r = .returned (.bool (!decide (k ∈ L))) ∧ (runFrom Md.init ns).fst e = some k ∧ Below w.heap.size w w' := by
  obtain ⟨y1, y2, rfl⟩ := s.form
  obtain ⟨z1, z2, rfl⟩ := hN.form
  have HSW : Hid (∀ W, Below w.heap.size w W → (fun W => W.cell? ⟨b, 0, none⟩ = some (.slice y1 ns.length y2) ∧ W.cell? ⟨b, 1, none⟩ = some (.int .i64 (l : Nat)) ∧ W.cell? ⟨b, 2, none⟩ = some (.slice z1 L.length z2)) W) := fun W hb => ⟨cell_of_heap (o := 0) (heap_later BX hb) rfl, cell_of_heap (o := 1) (heap_later BX hb) rfl, cell_of_heap (o := 2) (heap_later BX hb) rfl⟩
  have FS := Lib.hid (fun (ve : Value) (he : ∃ a n c, ve = .slice a n c) => first_c (l := l) (s.later ((Below.refl w.heap.size w).drew)) hok hr he hn)
  have CN := Lib.hid (fun W (hb : Below w.heap.size w W) k => contains_c k (hN.later hb) hL)
  clear s hok hN BX hr
  go_enter Try.func34, Try.ntmps34
  go_wp2_with fail
  refine wp_region_T (fun W => W.cell? ⟨b, 0, none⟩ = some (.slice y1 ns.length y2) ∧ W.cell? ⟨b, 1, none⟩ = some (.int .i64 (l : Nat)) ∧ W.cell? ⟨b, 2, none⟩ = some (.slice z1 L.length z2)) [4, 5] [] run_mixed ?_
  simp only [List.size_toArray, List.length_cons, List.length_nil]
  have hb0 : Below w.heap.size w w.drew := (Below.refl w.heap.size w).drew
  have HS := HSW.out w.drew hb0
  refine wpT_takeG (i := 0) (v := ?va0) rfl (by kernel_rfl) (fun _ _ _ h => h) rfl ?ya0 ?ra0
  case ya0 => ((intro wz; go_simp); try with_reducible rfl)
  try simp only [Act.put, List.setIfInBounds_toArray, List.set_cons_zero, List.set_cons_succ]
  refine wpT_loadG (i := 1) (v := ?va1) rfl (by kernel_rfl) (fun _ _ _ h => h) rfl ?ya1 HS ?ra1
  case ya1 => ((intro wz hSw; (try dsimp only at hSw); go_split_ands; go_simp); try with_reducible rfl)
  try simp only [Act.put, List.setIfInBounds_toArray, List.set_cons_zero, List.set_cons_succ]
  refine wpT_loadG (i := 2) (v := ?va2) rfl (by kernel_rfl) (fun _ _ _ h => h) rfl ?ya2 HS ?ra2
  case ya2 => ((intro wz hSw; (try dsimp only at hSw); go_split_ands; go_simp); try with_reducible rfl)
  try simp only [Act.put, List.setIfInBounds_toArray, List.set_cons_zero, List.set_cons_succ]
  refine wpT_takeG (i := 3) (v := ?va3) rfl (by kernel_rfl) (fun _ _ _ h => h) rfl ?ya3 ?ra3
  case ya3 => ((intro wz; go_simp); try with_reducible rfl)
  try simp only [Act.put, List.setIfInBounds_toArray, List.set_cons_zero, List.set_cons_succ]
  refine wpT_runG (i := 4) (by kernel_rfl) rfl rfl ?_
  go_simp
  refine (FS.out _ ⟨_, _, _, rfl⟩).mono ?_
  rintro r w4 ⟨k, rfl, hk, hb4⟩
  have hb5 : Below w.heap.size w w4 := hb0.trans hb4
  have B5 := Lib.hid hb5; have HK := Lib.hid hk
  clear hb4 hk hb0
  refine ⟨cond_keep (by decide) (HSW.out _ hb5), ?_⟩
  refine wpT_runG (i := 5) (by kernel_rfl) rfl rfl ?_
  go_simp
  refine (CN.out _ hb5 _).mono ?_
  rintro r w5 ⟨rfl, rfl⟩
  refine ⟨cond_keep (by decide) (HSW.out _ hb5), ?_⟩
  refine wpT_takeG (i := 6) (v := ?vb6) rfl (by kernel_rfl) (fun _ _ _ h => h) rfl ?yb6 ?rb6
  case yb6 => ((intro wz; go_simp); try with_reducible rfl)
  try simp only [Act.put, List.setIfInBounds_toArray, List.set_cons_zero, List.set_cons_succ]
  refine wpT_takeG (i := 7) (v := ?vb7) rfl (by kernel_rfl) (fun _ _ _ h => h) rfl ?yb7 ?rb7
  case yb7 => ((intro wz; go_simp); try with_reducible rfl)
  try simp only [Act.put, List.setIfInBounds_toArray, List.set_cons_zero, List.set_cons_succ]
  refine wpT_done (by kernel_rfl) ?_ _
  go_wp2
  go_ret
  exact ⟨k, rfl, HK.out, B5.out⟩
end Bead
end Go.Proofs.Ytdmichkekipdpaa
