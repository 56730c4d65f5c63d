/- The reference's functions that only read: Canon, uses, list, element, at. -/
import Derived.Test.YtidnmanljdadaaaSpec1
import Derived.BigQuiet
set_option linter.all false
namespace Go.Proofs.Ytidnmanljdadaaa
open Go.RowKit
namespace Bead
set_option maxRecDepth 100000

theorem below1 (w : World) (o : Obj) : Below w.heap.size w (w.alloc o) := (Below.refl _ _).alloc (Nat.le_refl _) _
theorem below2 (w : World) (o o' : Obj) : Below w.heap.size w ((w.alloc o).alloc o') := (below1 w o).alloc (by simp) _

set_option maxHeartbeats 1000000 in
theorem canon_c (v : Vl) (w : World) : Calls Try.prog 103 #[v.agg] w fun r w' => r = .returned (canon v).agg ∧ Below w.heap.size w w' := by
  obtain ⟨k, n, s⟩ := v
  simp only [Vl.agg]
  by_cases e1 : k = 1
  · subst e1
    go_enter Try.func103, Try.ntmps103
    go_wp2
    exact bodyPost_ret (v := Vl.agg ⟨1, n, ByteArray.empty⟩) (by simp [results, Try.results103, go_sem, Vl.agg]; rfl) rfl ⟨by simp [canon, Vl.agg], below2 _ _ _⟩
  by_cases e4 : k = 4
  · subst e4
    go_enter Try.func103, Try.ntmps103
    go_wp2
    exact bodyPost_ret (v := Vl.agg ⟨4, n, ByteArray.empty⟩) (by simp [results, Try.results103, go_sem, Vl.agg]; rfl) rfl ⟨by simp [canon, Vl.agg], below2 _ _ _⟩
  by_cases e6 : k = 6
  · subst e6
    go_enter Try.func103, Try.ntmps103
    go_wp2
    exact bodyPost_ret (v := Vl.agg ⟨6, n, ByteArray.empty⟩) (by simp [results, Try.results103, go_sem, Vl.agg]; rfl) rfl ⟨by simp [canon, Vl.agg], below2 _ _ _⟩
  by_cases e2 : k = 2
  · subst e2
    go_enter Try.func103, Try.ntmps103
    go_wp2
    exact bodyPost_ret (v := Vl.agg ⟨2, 0, s⟩) (by simp [results, Try.results103, go_sem, Vl.agg]) rfl ⟨by simp [canon, Vl.agg], below2 _ _ _⟩
  by_cases e3 : k = 3
  · subst e3
    by_cases e0 : n = 0
    · subst e0
      go_enter Try.func103, Try.ntmps103
      go_wp2
      exact bodyPost_ret (v := Vl.agg ⟨3, 0, ByteArray.empty⟩) (by simp [results, Try.results103, go_sem, Vl.agg]; rfl) rfl ⟨by simp [canon, Vl.agg], below2 _ _ _⟩
    · have q : (n != 0) = true := by simpa using e0
      go_enter Try.func103, Try.ntmps103
      go_wp2
      exact bodyPost_ret (v := Vl.agg ⟨3, 1, ByteArray.empty⟩) (by simp [results, Try.results103, go_sem, Vl.agg]; rfl) rfl ⟨by simp [canon, Vl.agg, e0], below2 _ _ _⟩
  by_cases e5 : k = 5
  · subst e5
    go_enter Try.func103, Try.ntmps103
    go_wp2
    exact bodyPost_ret (v := Vl.agg ⟨5, n, s⟩) (by simp [results, Try.results103, go_sem, Vl.agg]) rfl ⟨by simp [canon, Vl.agg], below2 _ _ _⟩
  · have q1 : (k == 1) = false := by simpa using e1
    have q2 : (k == 2) = false := by simpa using e2
    have q3 : (k == 3) = false := by simpa using e3
    have q4 : (k == 4) = false := by simpa using e4
    have q5 : (k == 5) = false := by simpa using e5
    have q6 : (k == 6) = false := by simpa using e6
    go_enter Try.func103, Try.ntmps103
    go_wp2
    exact bodyPost_ret (v := Vl.agg Vl.zero) (by simp [results, Try.results103, go_sem, Vl.agg, Vl.zero]; rfl) rfl ⟨by simp [canon, e1, e2, e3, e4, e5, e6, Vl.agg, Vl.zero], below2 _ _ _⟩

theorem op_cases {op : Int} (h0 : 0 ≤ op) (h1 : op < 22) : op = 0 ∨ op = 1 ∨ op = 2 ∨ op = 3 ∨ op = 4 ∨ op = 5 ∨ op = 6 ∨ op = 7 ∨ op = 8 ∨ op = 9 ∨ op = 10 ∨ op = 11 ∨ op = 12 ∨ op = 13 ∨ op = 14 ∨ op = 15 ∨ op = 16 ∨ op = 17 ∨ op = 18 ∨ op = 19 ∨ op = 20 ∨ op = 21 := by omega

set_option maxHeartbeats 1000000 in
theorem uses_c (op : Int) (h0 : 0 ≤ op) (h1 : op < 22) (w : World) : Calls Try.prog 90 #[.int .i64 op] w fun r w' => r = .returned (.tuple #[.bool (usesList op), .bool (usesOther op), .bool (usesElem op), .bool (usesMark op)]) ∧ w' = w := by
  rcases op_cases h0 h1 with rfl | rfl | rfl | rfl | rfl | rfl | rfl | rfl | rfl | rfl | rfl | rfl | rfl | rfl | rfl | rfl | rfl | rfl | rfl | rfl | rfl | rfl
  all_goals
    go_enter Try.func90, Try.ntmps90
    go_wp2
    refine bodyPost_ret (v := .tuple _) ?_ rfl ⟨rfl, rfl⟩
    simp [results, Try.results90, go_sem, usesList, usesOther, usesElem, usesMark]

section
variable {w : World} {B g : Nat} {m : Md} {v0 v1 v2 v3 : Value} {ls : Nat → Value}

theorem own_len {B : Nat} {e : TypeId} {sz : Nat} {v : Value} {n : Nat} {xs : List Value} (h : w.ownsRow B e sz v n xs) : ∃ a cap, v = .slice a n cap := by
  rcases h.2 with ⟨rfl, rfl⟩ | ⟨b, cap, _, rfl, _⟩
  · exact ⟨_, _, rfl⟩
  · exact ⟨_, _, rfl⟩

theorem list_c (h : SR w B g m v0 v1 v2 v3 ls) (n : Int) (hlen : m.len ≤ 4611686018427387904) :
    Calls Try.prog 91 #[.pointer (some ⟨g, 0, none⟩), .int .i64 n] w fun r w' => r = .returned (.bool (m.list n)) ∧ w' = w := by
  have c0 := h.c0
  by_cases h0 : 0 ≤ n
  · by_cases h1 : n < m.len
    · obtain ⟨i, rfl⟩ := Int.eq_ofNat_of_zero_le h0
      have hi : i < m.len := by omega
      obtain ⟨b, cap, rfl, c, _⟩ := h.at0 hi
      have e : m.list (i : Nat) = m.isL i := by simp [Md.list, hi]
      rw [e]
      clear h e h0
      go_enter Try.func91, Try.ntmps91
      go_wp2
      go_ret
      exact ⟨rfl, rfl⟩
    · obtain ⟨a, cap, rfl⟩ := own_len h.r0
      have e : m.list n = false := by simp [Md.list, h1]
      have d1 : decide (n < m.len) = false := by simpa using h1
      rw [e]
      clear h e
      go_enter Try.func91, Try.ntmps91
      go_wp2
      go_ret
      exact ⟨rfl, rfl⟩
  · have e : m.list n = false := by simp [Md.list, h0]
    have d1 : decide (0 ≤ n) = false := by simpa using h0
    rw [e]
    clear h e
    go_enter Try.func91, Try.ntmps91
    go_wp2
    go_ret
    exact ⟨rfl, rfl⟩

theorem element_c (h : SR w B g m v0 v1 v2 v3 ls) (n : Int) (hlen : m.len ≤ 4611686018427387904) :
    Calls Try.prog 92 #[.pointer (some ⟨g, 0, none⟩), .int .i64 n] w fun r w' => r = .returned (.bool (m.elem n)) ∧ w' = w := by
  have c0 := h.c2
  by_cases h0 : 0 ≤ n
  · by_cases h1 : n < m.len
    · obtain ⟨i, rfl⟩ := Int.eq_ofNat_of_zero_le h0
      have hi : i < m.len := by omega
      obtain ⟨b, cap, rfl, c, _⟩ := h.at2 hi
      cases hr : m.ret i with
      | none =>
        have e : m.elem (i : Nat) = false := by simp [Md.elem, hr]
        rw [e]
        rw [hr, optI_none] at c
        clear h e h0 hr
        go_enter Try.func92, Try.ntmps92
        go_wp2
        go_ret
        exact ⟨rfl, rfl⟩
      | some k =>
        have e : m.elem (i : Nat) = true := by simp [Md.elem, hr, hi]
        rw [e]
        rw [hr, optI_some] at c
        have hk : (0 : Int) ≤ (k : Nat) := by omega
        clear h e h0 hr
        go_enter Try.func92, Try.ntmps92
        go_wp2
        go_ret
        exact ⟨rfl, rfl⟩
    · obtain ⟨a, cap, rfl⟩ := own_len h.r2
      have e : m.elem n = false := by simp [Md.elem, h1]
      have d1 : decide (n < m.len) = false := by simpa using h1
      rw [e]
      clear h e
      go_enter Try.func92, Try.ntmps92
      go_wp2
      go_ret
      exact ⟨rfl, rfl⟩
  · have e : m.elem n = false := by simp [Md.elem, h0]
    have d1 : decide (0 ≤ n) = false := by simpa using h0
    rw [e]
    clear h e
    go_enter Try.func92, Try.ntmps92
    go_wp2
    go_ret
    exact ⟨rfl, rfl⟩

/-- The place of an element in a sequence; -1: it is not there. -/
def idx (s : List Nat) (e : Nat) : Int := if e ∈ s then (s.idxOf e : Nat) else -1

theorem idx_at {s : List Nat} {e j : Nat} (h : s[j]? = some e) (hn : ∀ t, t < j → s[t]? ≠ some e) : idx s e = (j : Nat) := by
  have hm : e ∈ s := List.mem_of_getElem? h
  have h1 : s[s.idxOf e]? = some e := by rw [List.getElem?_eq_getElem (List.idxOf_lt_length_of_mem hm), List.getElem_idxOf]
  have h2 : s.idxOf e ≤ j := by
    obtain ⟨hj, hje⟩ := List.getElem?_eq_some_iff.1 h
    rcases Nat.lt_or_ge j (s.idxOf e) with q | q
    · have := List.not_of_lt_findIdx (p := (· == e)) (xs := s) (i := j) q
      simp [hje] at this
    · exact q
  have h3 : ¬ s.idxOf e < j := fun q => hn _ q h1
  rw [idx, if_pos hm]
  congr 1
  omega
theorem idx_no {s : List Nat} {e : Nat} (hn : ∀ t, t < s.length → s[t]? ≠ some e) : idx s e = -1 := by
  rw [idx, if_neg]
  intro hm
  obtain ⟨t, ht, q⟩ := List.getElem_of_mem hm
  exact hn t ht (by rw [List.getElem?_eq_getElem ht, q])

theorem IRow.form {x : Value} {s : List Nat} (h : IRow w x s) : ∃ a cap, x = .slice a s.length cap := by
  rcases h with ⟨rfl, rfl⟩ | ⟨b, cap, c, rfl, _⟩
  · exact ⟨_, _, rfl⟩
  · exact ⟨_, _, rfl⟩
theorem IRow.get {x : Value} {s : List Nat} (h : IRow w x s) (hs : s ≠ []) : ∃ b cap, x = .slice (some ⟨b, 0, none⟩) s.length cap ∧ ∀ i e, s[i]? = some e → w.cell? ⟨b, i, none⟩ = some (.int .i64 (e : Nat)) := by
  rcases h with ⟨_, rfl⟩ | ⟨b, cap, c, rfl, h2, _, _, _, h3⟩
  · exact absurd rfl hs
  · exact ⟨b, cap, rfl, fun i e he => cell_of_heap h2 (h3 i e he)⟩

theorem at_c (h : SR w B g m v0 v1 v2 v3 ls) {l : Nat} (hl : l < m.len) (e : Nat) (hlen : m.len ≤ 4611686018427387904) (hs : (m.seq l).length ≤ 4611686018427387904) (hd : (m.seq l).Nodup) :
    Calls Try.prog 94 #[.pointer (some ⟨g, 0, none⟩), .int .i64 l, .int .i64 e] w fun r w' => r = .returned (.int .i64 (idx (m.seq l) e)) ∧ w' = w := by
  have c1 := h.c1
  obtain ⟨b, cap, rfl, c, _⟩ := h.at1 hl
  have hr := h.ll l hl
  by_cases hne : m.seq l = []
  · obtain ⟨a, cp, hx⟩ := hr.form
    rw [hx, hne] at c
    have e1 : idx (m.seq l) e = -1 := by rw [hne]; rfl
    rw [e1]
    clear h hr hx e1 hne hs hd
    simp only [List.length_nil] at c
    go_enter Try.func94, Try.ntmps94
    go_wp2
    go_loopg [17] 0 (fun n k wr => k = .int .i64 0 ∧ wr = w)
    case atStart => exact ⟨rfl, rfl⟩
    case round =>
      obtain ⟨rfl, rfl⟩ := hrel
      go_wp2
      go_ret
      exact ⟨rfl, rfl⟩
  · obtain ⟨b', cp, hx, hc⟩ := hr.get hne
    rw [hx] at c
    have HC := Lib.hid hc; have HD := Lib.hid hd
    clear h hr hx hc hd hne
    go_enter Try.func94, Try.ntmps94
    go_wp2
    go_loopg [17] (m.seq l).length (fun n k wr => wr = w ∧ ∃ j : Nat, j + n = (m.seq l).length ∧ k = .int .i64 j ∧ ∀ t, t < j → (m.seq l)[t]? ≠ some e)
    case atStart => exact ⟨rfl, 0, by omega, rfl, fun t ht => by omega⟩
    case round =>
      obtain ⟨rfl, j, hj, rfl, hn⟩ := hrel
      by_cases hk0 : gk = 0
      · subst hk0
        obtain rfl : j = (m.seq l).length := by omega
        have E : Hid (idx (m.seq l) e = -1) := idx_no hn
        clear hn
        go_wp2
        go_ret
        exact ⟨by rw [E.out]; rfl, rfl⟩
      · have hjl : j < (m.seq l).length := by omega
        have hg : (m.seq l)[j]? = some (m.seq l)[j] := List.getElem?_eq_getElem hjl
        have cj := HC.out j _ hg
        by_cases hq : (m.seq l)[j] = e
        · rw [hq] at cj hg
          have E : Hid (idx (m.seq l) e = (j : Nat)) := idx_at hg hn
          clear hn hg hq
          go_wp2
          go_ret
          exact ⟨by rw [E.out]; rfl, rfl⟩
        · have HN := Lib.hid hn; have HG := Lib.hid hg; have HJ := Lib.hid hj; have HQ := Lib.hid hq
          generalize (m.seq l)[j] = x at *
          have dx : (((x : Nat) : Int) == ((e : Nat) : Int)) = false := by have := HQ.out; simp; omega
          clear hn hg hq hj
          go_wp2
          go_roundg (gk - 1)
          case measure => omega
          case rel =>
            refine ⟨rfl, j + 1, by have := HJ.out; omega, by go_num, fun t ht => ?_⟩
            by_cases q : t = j
            · subst q; rw [HG.out]; simp; exact HQ.out
            · exact HN.out t (by omega)
end
end Bead
end Go.Proofs.Ytidnmanljdadaaa
