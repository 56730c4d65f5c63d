/- The reference's methods that write, continued: answer, put, take. -/
import Derived.Test.YtidnmanljdadaaaSpec6
import Derived.Test.YtidnmanljdadaaaLast
import Derived.Outline
import Derived.Deep.DeepCutAuto
set_option linter.all false
namespace Go.Proofs.Ytidnmanljdadaaa
open Go.RowKit
namespace Bead
set_option maxRecDepth 100000

def ints (s : List Nat) : List Value := s.map fun e => .int .i64 (e : Nat)
theorem ints_length (s : List Nat) : (ints s).length = s.length := by simp [ints]
theorem ints_append (s t : List Nat) : ints (s ++ t) = ints s ++ ints t := by simp [ints]
theorem ints_one (s : List Nat) : ∀ u ∈ ints s, u.oneCell' = true := by
  intro u hu
  simp only [ints, List.mem_map] at hu
  obtain ⟨e, _, rfl⟩ := hu
  rfl

section
variable {w W : World} {B g b1 cap : Nat} {F : Nat → Prop} {m : Md} {v0 v1 v2 v3 x : Value} {ls : Nat → Value}
/-- A list's row is replaced. -/
theorem SP.row (h : SR w B g m v0 (.slice (some ⟨b1, 0, none⟩) m.len cap) v2 v3 ls) (hf : ∀ k, Foot g v0 (.slice (some ⟨b1, 0, none⟩) m.len cap) v2 v3 k → F k) (hF : ∀ k, F k → B ≤ k ∧ k < w.heap.size)
    (hb : Below w.heap.size w W) {l : Nat} (hl : l < m.len) {s : List Nat} (hx : IRow W x s) (hd : ∀ b, x.ownBlock = some b → v2.ownBlock ≠ some b) : SP w (W.setCell ⟨b1, l, none⟩ x) B g F (m.setSeq l s) := by
  refine ⟨F, ⟨_, _, _, _, _, (h.below hb).set1 hl hx hd rfl, hf, fun k q => ⟨(hF k q).1, ?_⟩⟩, fun _ q => .inl q, ?_⟩
  · have := hb.size; have := (hF k q).2; simp [World.setCell]; omega
  · have k1 : Keeps F w W := ⟨hb.os, hb.tape, hb.output, hb.size, fun k hk _ => hb.block k hk⟩
    exact k1.setCell (p := ⟨b1, l, none⟩) (fun _ => hf b1 (.inr (.inr (.inl rfl)))) _
/-- .. by one of the call's own. -/
theorem SP.rowOwn (h : SR w B g m v0 (.slice (some ⟨b1, 0, none⟩) m.len cap) v2 v3 ls) (hf : ∀ k, Foot g v0 (.slice (some ⟨b1, 0, none⟩) m.len cap) v2 v3 k → F k) (hF : ∀ k, F k → B ≤ k ∧ k < w.heap.size)
    (hb : Below w.heap.size w W) {l : Nat} (hl : l < m.len) {s : List Nat} (hx : W.ownsRow w.heap.size 3 1 x s.length (ints s)) : SP w (W.setCell ⟨b1, l, none⟩ x) B g F (m.setSeq l s) := by
  refine SP.row h hf hF hb hl (IRow.of_own hx) (fun b q r => ?_)
  have := (hx.lt b q).1
  have := (h.lt (.inr (.inr (.inr (.inl r))))).2
  omega
theorem IRow.sl {s : List Nat} (h : IRow w x s) : Sl w x s.length (ints s) := by
  rcases h with ⟨rfl, rfl⟩ | ⟨b, cap, c, rfl, h2, _, _, _, h3⟩
  · exact ⟨none, 0, rfl, fun q => absurd rfl q⟩
  · refine ⟨_, _, rfl, fun _ => ⟨b, 0, rfl, fun k y hy => ?_⟩⟩
    simp only [ints, List.getElem?_map] at hy
    obtain ⟨e, he, rfl⟩ := Option.map_eq_some_iff.1 hy
    rw [Nat.zero_add]
    exact cell_of_heap h2 (h3 k e he)
/-- The first ones, and what is behind them. -/
theorem IRow.takes {b cap : Nat} {s : List Nat} (h : IRow w (.slice (some ⟨b, 0, none⟩) s.length cap) s) (k : Nat) (c : Nat) : Sl w (.slice (some ⟨b, 0, none⟩) k c) k (ints (s.take k)) := by
  obtain ⟨a, cp, he, hc⟩ := h.sl
  simp only [Value.slice.injEq] at he
  refine ⟨_, _, rfl, fun hne => ?_⟩
  have hs : ints s ≠ [] := by
    intro q; have := ints_length s; rw [q] at this
    have : s = [] := List.eq_nil_of_length_eq_zero this.symm
    subst this; simp [ints] at hne
  obtain ⟨b', off, rfl, hc2⟩ := hc hs
  simp at he
  obtain ⟨⟨rfl, rfl⟩, _⟩ := he
  refine ⟨_, _, rfl, fun j y hy => hc2 j y ?_⟩
  simp only [ints, List.getElem?_map, List.getElem?_take] at hy ⊢
  split at hy
  · exact hy
  · simp at hy
theorem IRow.drops {b cap : Nat} {s : List Nat} (h : IRow w (.slice (some ⟨b, 0, none⟩) s.length cap) s) (k c n : Nat) (hn : n = s.length - k) (o : Nat) (ho : k < s.length → o = k) : Sl w (.slice (some ⟨b, o, none⟩) n c) n (ints (s.drop k)) := by
  obtain ⟨a, cp, he, hc⟩ := h.sl
  simp only [Value.slice.injEq] at he
  refine ⟨_, _, rfl, fun hne => ?_⟩
  have hk : k < s.length := by
    rcases Nat.lt_or_ge k s.length with q | q
    · exact q
    · rw [List.drop_eq_nil_of_le q] at hne; simp [ints] at hne
  have hs : ints s ≠ [] := by
    intro q; have := ints_length s; rw [q] at this; simp at this; omega
  obtain ⟨b', off, rfl, hc2⟩ := hc hs
  simp at he
  obtain ⟨⟨rfl, rfl⟩, _⟩ := he
  have := ho hk
  subst this
  refine ⟨_, _, rfl, fun j y hy => ?_⟩
  have := hc2 (o + j) y (by simpa [ints, List.getElem?_map, List.getElem?_drop] using hy)
  rwa [Nat.zero_add] at this
theorem IRow.dropsIf {b cap : Nat} {s : List Nat} (h : IRow w (.slice (some ⟨b, 0, none⟩) s.length cap) s) (hc : s.length ≤ cap) (k : Nat) :
    Sl w (.slice (if cap = k then some ⟨b, 0, none⟩ else some ⟨b, k, none⟩) (s.length - k) (cap - k)) (s.length - k) (ints (s.drop k)) := by
  split
  · exact h.drops k _ _ rfl 0 (fun q => by omega)
  · exact h.drops k _ _ rfl k (fun _ => rfl)
theorem ifBlock_ne {p : Prop} [Decidable p] {a b : Addr} {n c : Nat} : (Value.slice (if p then some a else some b) n c).ownBlock ≠ none := by
  split <;> simp [Value.ownBlock]
end

def An.agg' (a : An) : Value := .agg #[.int .i64 a.elem, .int .i64 a.n, .int .i64 a.v.kind, .int .i64 a.v.n, .string a.v.s]

theorem answer_none {w : World} {g : Nat} (i : Nat) : Calls Try.prog 97 #[.pointer (some ⟨g, 0, none⟩), .int .i64 i, .int .i64 (-1)] w fun r w' => r = .returned An.no.agg' ∧ Below w.heap.size w w' := by
  go_enter Try.func97, Try.ntmps97
  go_wp2
  exact bodyPost_ret (v := An.no.agg') (by simp [results, Try.results97, go_sem, An.agg', An.no, Vl.zero]; rfl) rfl ⟨rfl, (Below.refl _ _).alloc (Nat.le_refl _) _⟩

theorem ne_kind {w : World} {a b : Nat} {c d : Array Value} {s t : TypeId} (h : w.heap[a]? = some (Obj.cells c s (0, 0))) (k : w.heap[b]? = some (Obj.cells d t (0, 0))) (hst : s ≠ t) : ¬ a = b := by
  rintro rfl; rw [h] at k; simp at k; exact hst k.2

theorem SR.el {w : World} {B g : Nat} {m : Md} {v0 v1 v2 : Value} {b3 cap : Nat} {ls : Nat → Value} (h : SR w B g m v0 v1 v2 (.slice (some ⟨b3, 0, none⟩) m.cnt cap) ls) {e : Nat} (he : e < m.cnt) {j : Nat} {y : Value} (hy : (ecells m e)[j]? = some y) : w.cell? ⟨b3, e * 6 + j, none⟩ = some y := by
  obtain ⟨b, c, q, k, _⟩ := h.at3 he
  simp at q; obtain ⟨rfl, _⟩ := q; exact k j y hy
theorem SR.elz {w : World} {B g : Nat} {m : Md} {v0 v1 v2 : Value} {b3 cap : Nat} {ls : Nat → Value} (h : SR w B g m v0 v1 v2 (.slice (some ⟨b3, 0, none⟩) m.cnt cap) ls) (j : Nat) : w.frozen? ⟨b3, j, none⟩ = false := h.r3.frozenAt j
theorem SR.rt {w : World} {B g : Nat} {m : Md} {v0 v1 v3 : Value} {b2 cap : Nat} {ls : Nat → Value} (h : SR w B g m v0 v1 (.slice (some ⟨b2, 0, none⟩) m.len cap) v3 ls) {i : Nat} (hi : i < m.len) : w.cell? ⟨b2, i, none⟩ = some (.int .i64 (optI (m.ret i))) := by
  obtain ⟨b, c, q, k, _⟩ := h.at2 hi
  simp at q; obtain ⟨rfl, _⟩ := q; exact k
theorem SR.rtz {w : World} {B g : Nat} {m : Md} {v0 v1 v3 : Value} {b2 cap : Nat} {ls : Nat → Value} (h : SR w B g m v0 v1 (.slice (some ⟨b2, 0, none⟩) m.len cap) v3 ls) (j : Nat) : w.frozen? ⟨b2, j, none⟩ = false := h.r2.frozenAt j

/-- Stores into the model's own rows, and what is told of them outside. -/
theorem SP.stored {w W : World} {B g : Nat} {F : Nat → Prop} {m' : Md} {v0 v1 v2 v3 : Value} {ls : Nat → Value} (hf : ∀ k, Foot g v0 v1 v2 v3 k → F k) (hF : ∀ k, F k → B ≤ k ∧ k < w.heap.size) (h : SR W B g m' v0 v1 v2 v3 ls) (hk : Keeps F w W) : SP w W B g F m' :=
  ⟨F, ⟨v0, v1, v2, v3, ls, h, hf, fun k q => ⟨(hF k q).1, Nat.lt_of_lt_of_le (hF k q).2 hk.size⟩⟩, fun _ q => .inl q, hk⟩

set_option maxHeartbeats 1000000 in
theorem answer_some {w : World} {B g : Nat} {F : Nat → Prop} {m : Md} (h : ST w B g F m) {i e : Nat} (hi : i < m.len) (he : e < m.cnt) (hlen : m.len ≤ 4611686018427387904) (hcnt : m.cnt ≤ 1000000) :
    Calls Try.prog 97 #[.pointer (some ⟨g, 0, none⟩), .int .i64 i, .int .i64 e] w fun r w' => r = .returned (m.num i e).agg' ∧ SP w w' B g F (m.give i e) := by
  obtain ⟨v0, v1, v2, v3, ls, hs, hf, hF⟩ := h
  obtain ⟨b2, cap2, rfl, _, _⟩ := hs.at2 hi
  obtain ⟨b3, cap3, rfl, _, _⟩ := hs.at3 he
  have c2 := fun o => (hs.alloc o).c2
  have g1 := fun o => (hs.alloc o).rt hi
  have z1 := fun o => (hs.alloc o).rtz i
  have hs1 := hs.set2 i (some e) rfl
  have c3 := fun o => (hs1.alloc o).c3
  have k1 := fun o => (hs1.alloc o).el (j := 5) he rfl
  have z3 := fun o => (hs1.alloc o).elz (e * 6 + 5)
  simp only [optI_some] at c3 k1 z3 hs1
  have l1 : g < w.heap.size := (hs.lt (.inl rfl)).2
  have l2 : b2 < w.heap.size := (hs.lt (.inr (.inr (.inr (.inl rfl))))).2
  have l3 : b3 < w.heap.size := (hs.lt (.inr (.inr (.inr (.inr rfl))))).2
  have kp1 : Keeps F w (w.setCell ⟨b2, i, none⟩ (.int .i64 (e : Nat))) := (Keeps.refl F w).setCell (p := ⟨b2, i, none⟩) (fun _ => hf b2 (.inr (.inr (.inr (.inl rfl))))) _
  cases hq : m.fst e with
  | none =>
    have hs2 := hs1.set3 (m' := m.give i e) he (j := 5) (by decide) (.int .i64 (i : Nat)) ⟨rfl, rfl, rfl, rfl, rfl⟩ (by simp [ecells, Md.give, upd_same, hq, optI]) (fun k hk => by simp only [ecells, Md.give]; rw [upd_other _ _ hk])
    have c4 := fun o => (hs2.alloc o).c3
    have k4 := fun o => (hs2.alloc o).el (j := 5) he rfl
    have eN : m.num i e = ⟨i, 0, Vl.zero⟩ := by simp [Md.num, hq]
    have eF : (m.give i e).fst e = some i := by simp [Md.give, upd_same, hq]
    simp only [hq, optI_none] at k1
    simp only [eF, optI_some] at k4
    have FIN : ∀ o, Hid (SP w (((w.setCell ⟨b2, i, none⟩ (.int .i64 (e : Nat))).setCell ⟨b3, e * 6 + 5, none⟩ (.int .i64 (i : Nat))).alloc o) B g F (m.give i e)) := fun o =>
      (SP.stored hf hF hs2 (kp1.setCell (p := ⟨b3, e * 6 + 5, none⟩) (fun _ => hf b3 (.inr (.inr (.inr (.inr rfl))))) _)).alloc o
    rw [eN]
    clear hs hs1 hs2 hf hF kp1 hq eN eF
    go_enter Try.func97, Try.ntmps97
    go_wp2
    exact bodyPost_ret (v := An.agg' ⟨i, 0, Vl.zero⟩) (by simp [results, Try.results97, go_sem, An.agg', Vl.zero]; rfl) rfl ⟨rfl, (FIN _).out⟩
  | some k =>
    have hs2 : SR (w.setCell ⟨b2, i, none⟩ (.int .i64 (e : Nat))) B g (m.give i e) v0 v1 (.slice (some ⟨b2, 0, none⟩) m.len cap2) (.slice (some ⟨b3, 0, none⟩) m.cnt cap3) ls := by
      have : m.give i e = { m with ret := upd m.ret i (some e) } := by
        have q : upd m.fst e (some k) = m.fst := by rw [← hq]; exact upd_self _ _
        simp only [Md.give, hq, Option.getD_some, q]
      rw [this]; exact hs1
    have eN : m.num i e = ⟨k, 0, Vl.zero⟩ := by simp [Md.num, hq]
    simp only [hq, optI_some] at k1
    have dk : decide (((k : Nat) : Int) < 0) = false := by simp <;> omega
    have FIN : ∀ o, Hid (SP w ((w.setCell ⟨b2, i, none⟩ (.int .i64 (e : Nat))).alloc o) B g F (m.give i e)) := fun o => (SP.stored hf hF hs2 kp1).alloc o
    rw [eN]
    clear hs hs1 hs2 hf hF kp1 hq eN
    go_enter Try.func97, Try.ntmps97
    go_wp2
    exact bodyPost_ret (v := An.agg' ⟨k, 0, Vl.zero⟩) (by simp [results, Try.results97, go_sem, An.agg', Vl.zero]; rfl) rfl ⟨rfl, (FIN _).out⟩

theorem run_mixed : Try.prog.follows .mixedOrders = true := by kernel_rfl

/-- The state behind a number of appends to rows of the call's own. -/
theorem below_grown {w w1 w2 : World} {B : Nat} {v : Value} {e : TypeId} {sz n : Nat} {xs : List Value} (h : Below w.heap.size w w1) (ho : w1.ownsRow B e sz v n xs) (hB : w.heap.size ≤ B) (hg : w1.grownBy w2 v.ownBlock) : Below w.heap.size w w2 :=
  h.grown hg h.size (fun k q => Nat.le_trans hB (ho.lt k q).1)

set_option maxHeartbeats 1000000 in
theorem put_c {w : World} {B g : Nat} {F : Nat → Prop} {m : Md} (h : ST w B g F m) {l k e : Nat} (hl : l < m.len) (hk : k ≤ (m.seq l).length) (hlen : m.len ≤ 4611686018427387904) (hsz : (m.seq l).length ≤ 1000000) :
    Calls Try.prog 96 #[.pointer (some ⟨g, 0, none⟩), .int .i64 l, .int .i64 k, .int .i64 e] w fun r w' => r = .returned (.tuple #[]) ∧ SP w w' B g F (m.put l k e) := by
  obtain ⟨v0, v1, v2, v3, ls, hs, hf, hF⟩ := h
  have c1 := hs.c1
  obtain ⟨b1, cap1, rfl, cl, _⟩ := hs.at1 hl
  have hr := hs.ll l hl
  have H := Lib.hid hs; have HF := Lib.hid hf; have HF2 := Lib.hid hF; have HR := Lib.hid hr
  have hkI : ((k : Nat) : Int) ≤ ((m.seq l).length : Nat) := by omega
  rcases hr with ⟨hx, hn⟩ | ⟨b, cap, c, hx, hb, hc1, hc2, hc3, hc4⟩
  · rw [hx] at cl
    obtain rfl : k = 0 := by rw [hn] at hk; simpa using hk
    have eP : m.put l 0 e = m.setSeq l [e] := by simp [Md.put, hn]
    rw [eP]
    have HX := Lib.hid hx
    clear hs hf hF hx hn eP hkI hk
    go_enter Try.func96, Try.ntmps96
    go_upto_region 2 with (at_builtin; refine wpList_app2 rfl (.tmp 9) (.tmp 18) 27 rfl w.heap.size 3 _ 1 8 Try.underlying27 Try.infoInt rfl (by decide) (.slice none 0 0) 0 [] rfl (World.ownsRow_nil _ _ _ _) (.slice none 0 0) 0 [] rfl (Sl.nil _) rfl (by simp) (.inl rfl) (by omega) (by decide) (Nat.le_refl _) ?_; intro x1 w1 hown1 hg1 _; rw [Nat.zero_add, List.nil_append] at hown1; have O1 := Lib.hid hown1; have B1 := Lib.hid (below_grown (Below.refl _ _) (World.ownsRow_nil w w.heap.size 3 1) (Nat.le_refl _) hg1); clear hown1 hg1)
    have s1 := B1.out.size
    go_upto_region 3 with (at_builtin; refine wpList_app2 rfl (.tmp 20) (.tmp 22) 27 rfl w.heap.size 3 _ 1 8 Try.underlying27 Try.infoInt rfl (by decide) x1 0 _ rfl (O1.out.alloc _) _ 1 [.int .i64 (e : Nat)] rfl (sl_new _ _ _ _ _) rfl (by simp [Value.oneCell']) (.inr (.inr (by decide))) (by omega) (by decide) (by simp; omega) ?_; intro x2 w2 hown2 hg2 _; rw [Nat.zero_add, List.nil_append] at hown2; have O2 := Lib.hid hown2; have B2 := Lib.hid (below_grown (B1.out.alloc B1.out.size _) (O1.out.alloc _) (Nat.le_refl _) hg2); clear hown2 hg2)
    have s2 := B2.out.size
    have c1' := (H.out.below B2.out).c1
    have cl' : w2.cell? ⟨b1, l, none⟩ = some (.slice none 0 0) := by
      rw [B2.out.cell (p := ⟨b1, l, none⟩) (World.block_lt_of_cell? w _ cl)]; exact cl
    refine wp_region_tail (fun w' => w'.cell? ⟨g, 1, none⟩ = some (.slice (some ⟨b1, 0, none⟩) m.len cap1) ∧ w'.cell? ⟨b1, l, none⟩ = some (.slice none 0 0)) 17 run_mixed ?_
    simp only [List.size_toArray, List.length_cons, List.length_nil]
    have HS : w2.drew.cell? ⟨g, 1, none⟩ = some (.slice (some ⟨b1, 0, none⟩) m.len cap1) ∧ w2.drew.cell? ⟨b1, l, none⟩ = some (.slice none 0 0) := ⟨c1', cl'⟩
    refine wpTail_take (i := 0) (v := ?vn0) rfl (by kernel_rfl) (fun _ _ _ h => h) rfl ?yn0 HS ?rn0
    case yn0 => ((intro wz hSw; (try dsimp only at hSw); go_split_ands; go_simp); try with_reducible rfl)
    try simp only [Act.put, List.setIfInBounds_toArray, List.set_cons_zero, List.set_cons_succ]
    refine wpTail_take (i := 1) (v := ?vn1) rfl (by kernel_rfl) (fun _ _ _ h => h) rfl ?yn1 HS ?rn1
    case yn1 => ((intro wz hSw; (try dsimp only at hSw); go_split_ands; go_simp); try with_reducible rfl)
    try simp only [Act.put, List.setIfInBounds_toArray, List.set_cons_zero, List.set_cons_succ]
    refine wpTail_take (i := 2) (v := ?vn2) rfl (by kernel_rfl) (fun _ _ _ h => h) rfl ?yn2 HS ?rn2
    case yn2 => ((intro wz hSw; (try dsimp only at hSw); go_split_ands; go_simp); try with_reducible rfl)
    try simp only [Act.put, List.setIfInBounds_toArray, List.set_cons_zero, List.set_cons_succ]
    refine wpTail_take (i := 3) (v := ?vn3) rfl (by kernel_rfl) (fun _ _ _ h => h) rfl ?yn3 HS ?rn3
    case yn3 => ((intro wz hSw; (try dsimp only at hSw); go_split_ands; go_simp); try with_reducible rfl)
    try simp only [Act.put, List.setIfInBounds_toArray, List.set_cons_zero, List.set_cons_succ]
    refine wpTail_take (i := 4) (v := ?vn4) rfl (by kernel_rfl) (fun _ _ _ h => h) rfl ?yn4 HS ?rn4
    case yn4 => ((intro wz hSw; (try dsimp only at hSw); go_split_ands; go_simp); try with_reducible rfl)
    try simp only [Act.put, List.setIfInBounds_toArray, List.set_cons_zero, List.set_cons_succ]
    refine wpTail_take (i := 5) (v := ?vn5) rfl (by kernel_rfl) (fun _ _ _ h => h) rfl ?yn5 HS ?rn5
    case yn5 => ((intro wz hSw; (try dsimp only at hSw); go_split_ands; go_simp); try with_reducible rfl)
    try simp only [Act.put, List.setIfInBounds_toArray, List.set_cons_zero, List.set_cons_succ]
    refine wpTail_take (i := 6) (v := ?vn6) rfl (by kernel_rfl) (fun _ _ _ h => h) rfl ?yn6 HS ?rn6
    case yn6 => ((intro wz hSw; (try dsimp only at hSw); go_split_ands; go_simp); try with_reducible rfl)
    try simp only [Act.put, List.setIfInBounds_toArray, List.set_cons_zero, List.set_cons_succ]
    refine wpTail_take (i := 7) (v := ?vn7) rfl (by kernel_rfl) (fun _ _ _ h => h) rfl ?yn7 HS ?rn7
    case yn7 => ((intro wz hSw; (try dsimp only at hSw); go_split_ands; go_simp); try with_reducible rfl)
    try simp only [Act.put, List.setIfInBounds_toArray, List.set_cons_zero, List.set_cons_succ]
    refine wpTail_take (i := 8) (v := ?vn8) rfl (by kernel_rfl) (fun _ _ _ h => h) rfl ?yn8 HS ?rn8
    case yn8 => ((intro wz hSw; (try dsimp only at hSw); go_split_ands; go_simp); try with_reducible rfl)
    try simp only [Act.put, List.setIfInBounds_toArray, List.set_cons_zero, List.set_cons_succ]
    refine wpTail_take (i := 9) (v := ?vn9) rfl (by kernel_rfl) (fun _ _ _ h => h) rfl ?yn9 HS ?rn9
    case yn9 => ((intro wz hSw; (try dsimp only at hSw); go_split_ands; go_simp); try with_reducible rfl)
    try simp only [Act.put, List.setIfInBounds_toArray, List.set_cons_zero, List.set_cons_succ]
    refine wpTail_take (i := 10) (v := ?vn10) rfl (by kernel_rfl) (fun _ _ _ h => h) rfl ?yn10 HS ?rn10
    case yn10 => ((intro wz hSw; (try dsimp only at hSw); go_split_ands; go_simp); try with_reducible rfl)
    try simp only [Act.put, List.setIfInBounds_toArray, List.set_cons_zero, List.set_cons_succ]
    refine wpTail_take (i := 11) (v := ?vn11) rfl (by kernel_rfl) (fun _ _ _ h => h) rfl ?yn11 HS ?rn11
    case yn11 => ((intro wz hSw; (try dsimp only at hSw); go_split_ands; go_simp); try with_reducible rfl)
    try simp only [Act.put, List.setIfInBounds_toArray, List.set_cons_zero, List.set_cons_succ]
    refine wpTail_take (i := 12) (v := ?vn12) rfl (by kernel_rfl) (fun _ _ _ h => h) rfl ?yn12 HS ?rn12
    case yn12 => ((intro wz hSw; (try dsimp only at hSw); go_split_ands; go_simp); try with_reducible rfl)
    try simp only [Act.put, List.setIfInBounds_toArray, List.set_cons_zero, List.set_cons_succ]
    refine wpTail_take (i := 13) (v := ?vn13) rfl (by kernel_rfl) (fun _ _ _ h => h) rfl ?yn13 HS ?rn13
    case yn13 => ((intro wz hSw; (try dsimp only at hSw); go_split_ands; go_simp); try with_reducible rfl)
    try simp only [Act.put, List.setIfInBounds_toArray, List.set_cons_zero, List.set_cons_succ]
    refine wpTail_take (i := 14) (v := ?vn14) rfl (by kernel_rfl) (fun _ _ _ h => h) rfl ?yn14 HS ?rn14
    case yn14 => ((intro wz hSw; (try dsimp only at hSw); go_split_ands; go_simp); try with_reducible rfl)
    try simp only [Act.put, List.setIfInBounds_toArray, List.set_cons_zero, List.set_cons_succ]
    refine wpTail_run (i := 15) (by kernel_rfl) rfl rfl ?_
    refine wp_app2 (.tmp 29) (.tmp 38) 27 rfl w.heap.size 3 _ 1 8 Try.underlying27 Try.infoInt rfl (by decide) x2 1 _ rfl O2.out.drew (.slice none 0 0) 0 [] rfl (Sl.nil _) rfl (by simp) (.inl rfl) (by omega) (by decide) (by simpa using s2) ?_
    intro x3 w3 hown3 hg3 _
    obtain ⟨a3, cap3, rfl⟩ := own_len hown3
    have B3 := Lib.hid (below_grown B2.out.drew O2.out.drew (Nat.le_refl _) hg3)
    have O3 : Hid (w3.ownsRow w.heap.size 3 1 (.slice a3 1 cap3) [e].length (ints [e])) := by
      have := hown3
      rw [List.append_nil] at this; exact this
    have FIN := Lib.hid (SP.rowOwn H.out HF.out HF2.out B3.out hl O3.out)
    have c1'' := (H.out.below B3.out).c1
    have cl'' : w3.cell? ⟨b1, l, none⟩ = some (.slice none 0 0) := by
      rw [B3.out.cell (p := ⟨b1, l, none⟩) (World.block_lt_of_cell? w _ cl)]; exact cl
    have fz : w3.frozen? ⟨b1, l, none⟩ = false := (H.out.below B3.out).r1.frozenAt l
    clear hown3 hg3
    have HS3 : w3.cell? ⟨g, 1, none⟩ = some (.slice (some ⟨b1, 0, none⟩) m.len cap1) ∧ w3.cell? ⟨b1, l, none⟩ = some (.slice none 0 0) := ⟨c1'', cl''⟩
    refine ⟨fun _ => HS3, ?_⟩
    simp only [Act.put, List.setIfInBounds_toArray, List.set_cons_zero, List.set_cons_succ]
    refine wpTail_take (i := 16) (v := ?vn16) rfl (by kernel_rfl) (fun _ _ _ h => h) rfl ?yn16 HS3 ?rn16
    case yn16 => ((intro wz hSw; (try dsimp only at hSw); go_split_ands; go_simp); try with_reducible rfl)
    try simp only [Act.put, List.setIfInBounds_toArray, List.set_cons_zero, List.set_cons_succ]
    refine wpTail_run (i := 17) (by kernel_rfl) rfl rfl ?_
    go_simp
    refine wpTail_done (by kernel_rfl) ?_ _
    first | go_end0 | (refine bodyPost_ret (results_none rfl _ _ _) rfl ?_)
    exact ⟨rfl, FIN.out⟩
  · rw [hx] at cl
    have T1 : Sl w (.slice (some ⟨b, 0, none⟩) k cap) k (ints ((m.seq l).take k)) := by have := HR.out; rw [hx] at this; exact this.takes k cap
    have HT1 := Lib.hid T1
    have kc : k ≤ cap := by omega
    have HX := Lib.hid hx
    clear hs hf hF hb hc4 hx T1
    go_enter Try.func96, Try.ntmps96
    go_upto_region 2 with (at_builtin; refine wpList_app2 rfl (.tmp 9) (.tmp 18) 27 rfl w.heap.size 3 _ 1 8 Try.underlying27 Try.infoInt rfl (by decide) (.slice none 0 0) 0 [] rfl (World.ownsRow_nil _ _ _ _) (.slice (some ⟨b, 0, none⟩) k cap) k (ints ((m.seq l).take k)) rfl HT1.out (by rw [ints_length]; simp; omega) (ints_one _) (.inr (.inl (by simp [Value.ownBlock]))) (by omega) (by decide) (Nat.le_refl _) ?_; intro x1 w1 hown1 hg1 _; rw [Nat.zero_add, List.nil_append] at hown1; have O1 := Lib.hid hown1; have B1 := Lib.hid (below_grown (Below.refl _ _) (World.ownsRow_nil w w.heap.size 3 1) (Nat.le_refl _) hg1); clear hown1 hg1)
    have s1 := B1.out.size
    go_upto_region 3 with (at_builtin; refine wpList_app2 rfl (.tmp 20) (.tmp 22) 27 rfl w.heap.size 3 _ 1 8 Try.underlying27 Try.infoInt rfl (by decide) x1 k _ rfl (O1.out.alloc _) _ 1 [.int .i64 (e : Nat)] rfl (sl_new _ _ _ _ _) rfl (by simp [Value.oneCell']) (.inr (.inr (by decide))) (by omega) (by decide) (by simp; omega) ?_; intro x2 w2 hown2 hg2 _; have O2 := Lib.hid hown2; have B2 := Lib.hid (below_grown (B1.out.alloc B1.out.size _) (O1.out.alloc _) (Nat.le_refl _) hg2); clear hown2 hg2)
    have s2 := B2.out.size
    have c1' := (H.out.below B2.out).c1
    have cl' : w2.cell? ⟨b1, l, none⟩ = some (.slice (some ⟨b, 0, none⟩) (m.seq l).length cap) := by
      rw [B2.out.cell (p := ⟨b1, l, none⟩) (World.block_lt_of_cell? w _ cl)]; exact cl
    refine wp_region_tail (fun w' => w'.cell? ⟨g, 1, none⟩ = some (.slice (some ⟨b1, 0, none⟩) m.len cap1) ∧ w'.cell? ⟨b1, l, none⟩ = some (.slice (some ⟨b, 0, none⟩) (m.seq l).length cap)) 17 run_mixed ?_
    simp only [List.size_toArray, List.length_cons, List.length_nil]
    have HS : w2.drew.cell? ⟨g, 1, none⟩ = some (.slice (some ⟨b1, 0, none⟩) m.len cap1) ∧ w2.drew.cell? ⟨b1, l, none⟩ = some (.slice (some ⟨b, 0, none⟩) (m.seq l).length cap) := ⟨c1', cl'⟩
    refine wpTail_take (i := 0) (v := ?v0) rfl (by kernel_rfl) (fun _ _ _ h => h) rfl ?y0 HS ?r0
    case y0 => ((intro wz hSw; (try dsimp only at hSw); go_split_ands; go_simp); try with_reducible rfl)
    try simp only [Act.put, List.setIfInBounds_toArray, List.set_cons_zero, List.set_cons_succ]
    refine wpTail_take (i := 1) (v := ?v1) rfl (by kernel_rfl) (fun _ _ _ h => h) rfl ?y1 HS ?r1
    case y1 => ((intro wz hSw; (try dsimp only at hSw); go_split_ands; go_simp); try with_reducible rfl)
    try simp only [Act.put, List.setIfInBounds_toArray, List.set_cons_zero, List.set_cons_succ]
    refine wpTail_take (i := 2) (v := ?v2) rfl (by kernel_rfl) (fun _ _ _ h => h) rfl ?y2 HS ?r2
    case y2 => ((intro wz hSw; (try dsimp only at hSw); go_split_ands; go_simp); try with_reducible rfl)
    try simp only [Act.put, List.setIfInBounds_toArray, List.set_cons_zero, List.set_cons_succ]
    refine wpTail_take (i := 3) (v := ?v3) rfl (by kernel_rfl) (fun _ _ _ h => h) rfl ?y3 HS ?r3
    case y3 => ((intro wz hSw; (try dsimp only at hSw); go_split_ands; go_simp); try with_reducible rfl)
    try simp only [Act.put, List.setIfInBounds_toArray, List.set_cons_zero, List.set_cons_succ]
    refine wpTail_take (i := 4) (v := ?v4) rfl (by kernel_rfl) (fun _ _ _ h => h) rfl ?y4 HS ?r4
    case y4 => ((intro wz hSw; (try dsimp only at hSw); go_split_ands; go_simp); try with_reducible rfl)
    try simp only [Act.put, List.setIfInBounds_toArray, List.set_cons_zero, List.set_cons_succ]
    refine wpTail_take (i := 5) (v := ?v5) rfl (by kernel_rfl) (fun _ _ _ h => h) rfl ?y5 HS ?r5
    case y5 => ((intro wz hSw; (try dsimp only at hSw); go_split_ands; go_simp); try with_reducible rfl)
    try simp only [Act.put, List.setIfInBounds_toArray, List.set_cons_zero, List.set_cons_succ]
    refine wpTail_take (i := 6) (v := ?v6) rfl (by kernel_rfl) (fun _ _ _ h => h) rfl ?y6 HS ?r6
    case y6 => ((intro wz hSw; (try dsimp only at hSw); go_split_ands; go_simp); try with_reducible rfl)
    try simp only [Act.put, List.setIfInBounds_toArray, List.set_cons_zero, List.set_cons_succ]
    refine wpTail_take (i := 7) (v := ?v7) rfl (by kernel_rfl) (fun _ _ _ h => h) rfl ?y7 HS ?r7
    case y7 => ((intro wz hSw; (try dsimp only at hSw); go_split_ands; go_simp); try with_reducible rfl)
    try simp only [Act.put, List.setIfInBounds_toArray, List.set_cons_zero, List.set_cons_succ]
    refine wpTail_take (i := 8) (v := ?v8) rfl (by kernel_rfl) (fun _ _ _ h => h) rfl ?y8 HS ?r8
    case y8 => ((intro wz hSw; (try dsimp only at hSw); go_split_ands; go_simp); try with_reducible rfl)
    try simp only [Act.put, List.setIfInBounds_toArray, List.set_cons_zero, List.set_cons_succ]
    refine wpTail_take (i := 9) (v := ?v9) rfl (by kernel_rfl) (fun _ _ _ h => h) rfl ?y9 HS ?r9
    case y9 => ((intro wz hSw; (try dsimp only at hSw); go_split_ands; go_simp); try with_reducible rfl)
    try simp only [Act.put, List.setIfInBounds_toArray, List.set_cons_zero, List.set_cons_succ]
    refine wpTail_take (i := 10) (v := ?v10) rfl (by kernel_rfl) (fun _ _ _ h => h) rfl ?y10 HS ?r10
    case y10 => ((intro wz hSw; (try dsimp only at hSw); go_split_ands; go_simp); try with_reducible rfl)
    try simp only [Act.put, List.setIfInBounds_toArray, List.set_cons_zero, List.set_cons_succ]
    refine wpTail_take (i := 11) (v := ?v11) rfl (by kernel_rfl) (fun _ _ _ h => h) rfl ?y11 HS ?r11
    case y11 => ((intro wz hSw; (try dsimp only at hSw); go_split_ands; go_simp); try with_reducible rfl)
    try simp only [Act.put, List.setIfInBounds_toArray, List.set_cons_zero, List.set_cons_succ]
    refine wpTail_take (i := 12) (v := ?v12) rfl (by kernel_rfl) (fun _ _ _ h => h) rfl ?y12 HS ?r12
    case y12 => ((intro wz hSw; (try dsimp only at hSw); go_split_ands; go_simp); try with_reducible rfl)
    try simp only [Act.put, List.setIfInBounds_toArray, List.set_cons_zero, List.set_cons_succ]
    refine wpTail_take (i := 13) (v := ?v13) rfl (by kernel_rfl) (fun _ _ _ h => h) rfl ?y13 HS ?r13
    case y13 => ((intro wz hSw; (try dsimp only at hSw); go_split_ands; go_simp); try with_reducible rfl)
    try simp only [Act.put, List.setIfInBounds_toArray, List.set_cons_zero, List.set_cons_succ]
    refine wpTail_take (i := 14) (v := ?v14) rfl (by kernel_rfl) (fun _ _ _ h => h) rfl ?y14 HS ?r14
    case y14 => ((intro wz hSw; (try dsimp only at hSw); go_split_ands; go_simp); try with_reducible rfl)
    try simp only [Act.put, List.setIfInBounds_toArray, List.set_cons_zero, List.set_cons_succ]
    refine wpTail_run (i := 15) (by kernel_rfl) rfl rfl ?_
    have R2 : IRow w2.drew (.slice (some ⟨b, 0, none⟩) (m.seq l).length cap) (m.seq l) := by
      have := (H.out.below B2.out).ll l hl
      rw [HX.out] at this; exact this
    refine wp_app2 (.tmp 29) (.tmp 38) 27 rfl w.heap.size 3 _ 1 8 Try.underlying27 Try.infoInt rfl (by decide) x2 (k + 1) _ rfl O2.out.drew _ ((m.seq l).length - k) (ints ((m.seq l).drop k)) rfl (R2.dropsIf hc1 k) (by rw [ints_length]; simp) (ints_one _) (.inr (.inl ifBlock_ne)) (by omega) (by decide) (by simpa using s2) ?_
    intro x3 w3 hown3 hg3 _
    obtain ⟨a3, cap3, rfl⟩ := own_len hown3
    have B3 := Lib.hid (below_grown B2.out.drew O2.out.drew (Nat.le_refl _) hg3)
    have O3 : Hid (w3.ownsRow w.heap.size 3 1 (.slice a3 (k + 1 + ((m.seq l).length - k)) cap3) ((m.seq l).take k ++ e :: (m.seq l).drop k).length (ints ((m.seq l).take k ++ e :: (m.seq l).drop k))) := by
      have e1 : k + 1 + ((m.seq l).length - k) = ((m.seq l).take k ++ e :: (m.seq l).drop k).length := by simp; omega
      have e2 : (ints ((m.seq l).take k) ++ [Value.int .i64 (e : Nat)]) ++ ints ((m.seq l).drop k) = ints ((m.seq l).take k ++ e :: (m.seq l).drop k) := by simp [ints]
      have := hown3
      rw [e2] at this
      exact cast (congrArg (fun n => w3.ownsRow w.heap.size 3 1 (.slice a3 (k + 1 + ((m.seq l).length - k)) cap3) n (ints ((m.seq l).take k ++ e :: (m.seq l).drop k))) e1) this
    have FIN := Lib.hid (SP.rowOwn H.out HF.out HF2.out B3.out hl O3.out)
    have c1'' := (H.out.below B3.out).c1
    have cl'' : w3.cell? ⟨b1, l, none⟩ = some (.slice (some ⟨b, 0, none⟩) (m.seq l).length cap) := by
      rw [B3.out.cell (p := ⟨b1, l, none⟩) (World.block_lt_of_cell? w _ cl)]; exact cl
    have fz : w3.frozen? ⟨b1, l, none⟩ = false := (H.out.below B3.out).r1.frozenAt l
    clear hown3 hg3 R2
    have HS3 : w3.cell? ⟨g, 1, none⟩ = some (.slice (some ⟨b1, 0, none⟩) m.len cap1) ∧ w3.cell? ⟨b1, l, none⟩ = some (.slice (some ⟨b, 0, none⟩) (m.seq l).length cap) := ⟨c1'', cl''⟩
    refine ⟨fun _ => HS3, ?_⟩
    simp only [Act.put, List.setIfInBounds_toArray, List.set_cons_zero, List.set_cons_succ]
    refine wpTail_take (i := 16) (v := ?v16) rfl (by kernel_rfl) (fun _ _ _ h => h) rfl ?y16 HS3 ?r16
    case y16 => ((intro wz hSw; (try dsimp only at hSw); go_split_ands; go_simp); try with_reducible rfl)
    try simp only [Act.put, List.setIfInBounds_toArray, List.set_cons_zero, List.set_cons_succ]
    refine wpTail_run (i := 17) (by kernel_rfl) rfl rfl ?_
    go_simp
    refine wpTail_done (by kernel_rfl) ?_ _
    first | go_end0 | (refine bodyPost_ret (results_none rfl _ _ _) rfl ?_)
    exact ⟨rfl, FIN.out⟩
end Bead
end Go.Proofs.Ytidnmanljdadaaa
