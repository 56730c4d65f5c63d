/- Scripts and rows of numbers in memory; laws.behind. -/
import Derived.Test.YtidnmanljdadaaaCalls
import Derived.Test.YtidnmanljdadaaaPlain
set_option linter.all false
namespace Go.Proofs.Ytidnmanljdadaaa
open Go.RowKit
namespace Bead
set_option maxRecDepth 100000

/-- A slice value that reads as a script. -/
structure Scr (w : World) (v : Value) (cs : List Cl) : Prop where
  sl : Sl w v cs.length (cs.flatMap Cl.cells)
  fair : Value.fair v
  ok : ∀ c ∈ cs, c.v.ok
/-- A slice value that reads as a row of numbers. -/
def Nats (w : World) (v : Value) (L : List Nat) : Prop := Sl w v L.length (ints L)
section
variable {w w' : World} {v : Value} {cs : List Cl} {L : List Nat}
theorem Scr.later (h : Scr w v cs) (hb : Below w.heap.size w w') : Scr w' v cs := ⟨h.sl.later hb, h.fair, h.ok⟩
theorem Scr.of_own {B : Nat} (h : w.ownsRow B 32 8 v cs.length (cs.flatMap Cl.cells)) (hv : ∀ c ∈ cs, c.v.ok) : Scr w v cs := ⟨Sl.of_own h, own_fair h, hv⟩
theorem Nats.later (h : Nats w v L) (hb : Below w.heap.size w w') : Nats w' v L := Sl.later h hb
theorem Nats.of_own {B : Nat} (h : w.ownsRow B 3 1 v L.length (ints L)) : Nats w v L := Sl.of_own h
theorem ints_get {j x : Nat} (h : L[j]? = some x) : (ints L)[j]? = some (.int .i64 (x : Nat)) := by simp [ints, h]
theorem ints_ne (h : L ≠ []) : ints L ≠ [] := by simpa [ints] using h
/-- The cells of a row of numbers that is not empty. -/
theorem Nats.cells (h : Nats w v L) (hL : L ≠ []) : ∃ b off cap, v = .slice (some ⟨b, off, none⟩) L.length cap ∧ ∀ (j x : Nat), L[j]? = some x → w.cell? ⟨b, off + j, none⟩ = some (.int .i64 (x : Nat)) := by
  obtain ⟨a, cap, rfl, hc⟩ := h
  obtain ⟨b, off, rfl, hd⟩ := hc (ints_ne hL)
  exact ⟨b, off, cap, rfl, fun j x hx => hd j _ (ints_get hx)⟩
theorem Nats.form (h : Nats w v L) : ∃ a cap, v = .slice a L.length cap := by obtain ⟨a, c, q, _⟩ := h; exact ⟨a, c, q⟩
theorem Scr.form (h : Scr w v cs) : ∃ a cap, v = .slice a cs.length cap := by obtain ⟨a, c, q, _⟩ := h.sl; exact ⟨a, c, q⟩
end

/-- The rest of a row of own cells, as a slice. -/
theorem sl_rest {w : World} {B g n m cap sz : Nat} {e : TypeId} {X Y : List Value} (h : w.ownsRow B e sz (.slice (some ⟨g, 0, none⟩) (n + m) cap) (n + m) (X ++ Y)) (hX : X.length = n * sz) (off : Nat) (ho : off = n * sz) (c : Nat) : Sl w (.slice (some ⟨g, off, none⟩) m c) m Y := by
  obtain ⟨x, y, q, hc⟩ := Sl.of_own h
  simp only [Value.slice.injEq] at q
  obtain ⟨rfl, _, rfl⟩ := q
  refine ⟨_, _, rfl, fun hne => ⟨g, off, rfl, fun k x hx => ?_⟩⟩
  obtain ⟨b, o, hb, hcc⟩ := hc (by intro q; exact hne (List.append_eq_nil_iff.1 q).2)
  simp only [Option.some.injEq, Addr.mk.injEq] at hb
  obtain ⟨rfl, rfl, _⟩ := hb
  have := hcc (n * sz + k) x (by rw [List.getElem?_append_right (by omega), ← hX, Nat.add_sub_cancel_left]; exact hx)
  rw [Nat.zero_add] at this
  rw [ho]; exact this

/-- The rest of a row of own cells, as the walk writes it. -/
theorem sl_drop {w : World} {B n m cap sz : Nat} {e : TypeId} {p : Option Addr} {X Y : List Value} (h : w.ownsRow B e sz (.slice p (n + m) cap) (n + m) (X ++ Y)) (hX : X.length = n * sz) (c : Nat) : Sl w (.slice (Option.map (fun x => x.add (n * sz)) p) m c) m Y := by
  by_cases hY : Y = []
  · exact ⟨_, _, rfl, fun hne => absurd hY hne⟩
  · obtain ⟨x, y, q, hc⟩ := Sl.of_own h
    obtain ⟨b, o, rfl, hcc⟩ := hc (by intro q; exact hY (List.append_eq_nil_iff.1 q).2)
    simp only [Value.slice.injEq] at q
    obtain ⟨rfl, _, rfl⟩ := q
    have he : (⟨b, o, none⟩ : Addr).add (n * sz) = ⟨b, o + n * sz, none⟩ := by
      unfold Addr.add
      split
      · rename_i z; rw [z]; rfl
      · rfl
    refine ⟨_, _, rfl, fun _ => ⟨b, o + n * sz, by simp only [Option.map_some, he], fun k x hx => ?_⟩⟩
    have := hcc (n * sz + k) x (by rw [List.getElem?_append_right (by omega), ← hX, Nat.add_sub_cancel_left]; exact hx)
    rw [Nat.add_assoc]; exact this

/-- A slice value has room for what it has, and it lies in new memory. -/
def Value.room (B : Nat) (v : Value) : Prop := (∀ a n c, v = .slice a n c → n ≤ c) ∧ ∀ b, v.ownBlock = some b → B ≤ b
theorem own_any (p : Option Addr) (n c n' c' : Nat) : (Value.slice p n c).ownBlock = (Value.slice p n' c').ownBlock := by cases p <;> rfl
theorem own_add (p : Option Addr) (k n c n' c' : Nat) : (Value.slice (Option.map (fun x => x.add k) p) n c).ownBlock = (Value.slice p n' c').ownBlock := by
  cases p with
  | none => rfl
  | some a =>
    simp only [Option.map_some, Value.ownBlock]
    unfold Addr.add
    split <;> rfl

set_option maxHeartbeats 1000000 in
theorem behind_c {w : World} {v1 v2 : Value} {a b : List Cl} {most : Nat} (s1 : Scr w v1 a) (s2 : Scr w v2 b) (hok : okFrom most Md.init (a ++ b) = true) (hmost : most ≤ 1152921504606846976) (hn : a.length + b.length ≤ 1099511627776) :
    Calls Try.prog 46 #[v1, v2] w fun r w' => ∃ v', r = .returned v' ∧ Sl w' v' b.length ((ansFrom (runFrom Md.init a) b).flatMap An.cells) ∧ Value.room w.heap.size v' ∧ Below w.heap.size w w' := by
  have CC : Hid (∀ t, Calls Try.prog 44 #[.slice (some ⟨w.heap.size, 0, none⟩) 2 2] (w.alloc (.cells #[v1, v2] t)) fun r w' => ∃ v', r = .returned v' ∧ w'.ownsRow (w.alloc (.cells #[v1, v2] t)).heap.size 32 8 v' (a.length + b.length) (a.flatMap Cl.cells ++ b.flatMap Cl.cells) ∧ Below (w.alloc (.cells #[v1, v2] t)).heap.size (w.alloc (.cells #[v1, v2] t)) w') := fun t =>
    concatCall_c (cell_of_heap (heap_alloc_new w _) rfl) (cell_of_heap (heap_alloc_new w _) rfl) (s1.sl.later (below1 w _)) (s2.sl.later (below1 w _)) (flat_length _ 8 Cl.cells_length _) (flat_length _ 8 Cl.cells_length _) (cells_one _) (cells_one _) s1.fair s2.fair hn
  have HV := Lib.hid (fun c (hc : c ∈ a ++ b) => show c.v.ok by rcases List.mem_append.1 hc with q | q; exact s1.ok c q; exact s2.ok c q)
  have HOK := Lib.hid hok
  obtain ⟨a1, c1, rfl⟩ := s1.form
  obtain ⟨a2, c2, rfl⟩ := s2.form
  clear s1 s2 hok
  go_enter Try.func46, Try.ntmps46
  go_wp2_with fail
  refine (CC.out _).mono ?_
  rintro r w1 ⟨v', rfl, r1, hb⟩
  have B1 := Lib.hid ((below1 w _).trans (hb.mono (by simp)))
  rw [← List.length_append, ← cells_app] at r1
  have PL := Lib.hid (play_any (Sl.of_own r1) HV.out HOK.out (by omega) (by rw [List.length_append]; exact hn))
  clear r1 hb CC
  go_wp2_with fail
  refine PL.out.mono ?_
  rintro r w2 ⟨out, rfl, rp, hb2⟩
  have B2 := Lib.hid (B1.out.trans (hb2.mono B1.out.size))
  rw [ansFrom_append, List.flatMap_append, List.length_append] at rp
  obtain ⟨p1, p2, rfl⟩ := own_len rp
  have hle : a.length + b.length ≤ p2 := by
    rcases rp.2 with ⟨q, z⟩ | ⟨_, _, _, q, _, _, hz, _⟩
    · simp only [Value.slice.injEq] at q; omega
    · simp only [Value.slice.injEq] at q; omega
  have RP := Lib.hid rp
  clear hb2 rp PL
  have ql : (((a.length + b.length : Nat) : Int) != (a.length : Int) + (b.length : Int)) = false := by simp
  have wrp : IntKind.i64.wrap ((a.length : Int) + (b.length : Int)) = (a.length : Int) + (b.length : Int) := by rw [IntKind.wrap_i64]; omega
  have LA := Lib.hid (ansFrom_length a Md.init)
  go_wp2
  · go_ret
    have hb0 : b = [] := List.eq_nil_of_length_eq_zero (by omega)
    refine ⟨_, rfl, ⟨_, _, rfl, fun hne => absurd ?_ hne⟩, ⟨fun a' n' c' q => ?_, fun k q => ?_⟩, B2.out⟩
    · rw [hb0]; rfl
    · simp at q; omega
    · change (Value.slice p1 b.length 0).ownBlock = some k at q
      rw [own_any p1 _ _ (a.length + b.length) p2] at q
      have := (RP.out.lt k q).1; have := B1.out.size; omega
  · go_ret
    exact ⟨_, rfl, sl_drop RP.out (by rw [flat_length _ 5 An.cells_length, LA.out]) _, ⟨fun a' n' c' q => by simp at q; omega, fun k q => by
      change (Value.slice (Option.map (fun x => x.add (a.length * 5)) p1) b.length (p2 - a.length)).ownBlock = some k at q
      rw [own_add _ _ _ _ (a.length + b.length) p2] at q
      have := (RP.out.lt k q).1; have := B1.out.size; omega⟩, B2.out⟩
end Bead
end Go.Proofs.Ytidnmanljdadaaa

/- Rows of numbers: slices.Equal, slices.Index, slices.Contains, laws.chosen, laws.lists. -/
namespace Go.Proofs.Ytidnmanljdadaaa
open Go.RowKit
namespace Bead
set_option maxRecDepth 100000

theorem Nats.drewN {w : World} {v : Value} {L : List Nat} (h : Nats w v L) (d : Nat) : Nats (w.drewN d) v L := Nats.later h (Below.drewN' (Below.refl _ _) d)

set_option maxHeartbeats 1000000 in
/-- Equal rows of numbers are equal. -/
theorem equalInt_c {w : World} {v1 v2 : Value} {L : List Nat} (h1 : Nats w v1 L) (h2 : Nats w v2 L) (hlen : L.length ≤ 4611686018427387904) :
    Calls Try.prog 28 #[v1, v2] w fun r w' => r = .returned (.bool true) ∧ ∃ d, w' = w.drewN d := by
  have H1 := Lib.hid h1; have H2 := Lib.hid h2
  obtain ⟨a1, c1, rfl⟩ := h1.form
  obtain ⟨a2, c2, rfl⟩ := h2.form
  clear h1 h2
  go_enter Try.func28, Try.ntmps28
  go_wp2_with fail
  go_loopg [13] L.length (fun n k wr => ∃ j, j + n = L.length ∧ k = .int .i64 j ∧ ∃ d, wr = w.drewN d)
  case atStart => exact ⟨0, by omega, rfl, 0, rfl⟩
  case round =>
    obtain ⟨j, hj, rfl, d, rfl⟩ := hrel
    by_cases hk0 : gk = 0
    · subst hk0
      obtain rfl : j = L.length := by omega
      clear hj
      go_wp2
      go_ret
      exact ⟨rfl, d, rfl⟩
    · have hjl : j < L.length := by omega
      obtain ⟨x, hget⟩ : ∃ x, L[j]? = some x := ⟨_, List.getElem?_eq_getElem hjl⟩
      have hne : L ≠ [] := by intro q; subst q; simp at hjl
      obtain ⟨b1, o1, p1, hv1, cell1⟩ := H1.out.cells hne
      obtain ⟨b2, o2, p2, hv2, cell2⟩ := H2.out.cells hne
      simp only [Value.slice.injEq] at hv1 hv2
      obtain ⟨rfl, hz1, rfl⟩ := hv1
      obtain ⟨rfl, hz2, rfl⟩ := hv2
      clear hz1 hz2
      have e1 := cell1 j x hget
      have e2 := cell2 j x hget
      have HJ := Lib.hid hj
      clear hj hget cell1 cell2 hne
      go_wp2_with fail
      go_quiet (fail)
      go_wp2
      go_roundg (gk - 1)
      case measure => omega
      case rel => exact ⟨j + 1, by have := HJ.out; omega, by go_num, _, rfl⟩

/-- A slice value that reads as a row of values. -/
def Vls (w : World) (v : Value) (L : List Vl) : Prop := Sl w v L.length (L.flatMap Vl.cells)
set_option maxHeartbeats 1000000 in
theorem equalVal_c {w : World} {v1 v2 : Value} {L : List Vl} (h1 : Vls w v1 L) (h2 : Vls w v2 L) (hlen : L.length ≤ 4611686018427387904) :
    Calls Try.prog 49 #[v1, v2] w fun r w' => r = .returned (.bool true) ∧ ∃ d, w' = w.drewN d := by
  have H1 := Lib.hid h1; have H2 := Lib.hid h2
  obtain ⟨a1, c1, rfl, _⟩ := h1
  obtain ⟨a2, c2, rfl, _⟩ := h2
  go_enter Try.func49, Try.ntmps49
  go_wp2_with fail
  go_loopg [13] L.length (fun n k wr => ∃ j, j + n = L.length ∧ k = .int .i64 j ∧ ∃ d, wr = w.drewN d)
  case atStart => exact ⟨0, by omega, rfl, 0, rfl⟩
  case round =>
    obtain ⟨j, hj, rfl, d, rfl⟩ := hrel
    by_cases hk0 : gk = 0
    · subst hk0
      obtain rfl : j = L.length := by omega
      clear hj
      go_wp2
      go_ret
      exact ⟨rfl, d, rfl⟩
    · have hjl : j < L.length := by omega
      obtain ⟨x, hget⟩ : ∃ x, L[j]? = some x := ⟨_, List.getElem?_eq_getElem hjl⟩
      have hne : L ≠ [] := by intro q; subst q; simp at hjl
      obtain ⟨b1, o1, p1, hv1, cell1⟩ := Sl.elem Vl.cells_length (by decide) H1.out hne
      obtain ⟨b2, o2, p2, hv2, cell2⟩ := Sl.elem Vl.cells_length (by decide) H2.out hne
      simp only [Value.slice.injEq] at hv1 hv2
      obtain ⟨rfl, hz1, rfl⟩ := hv1
      obtain ⟨rfl, hz2, rfl⟩ := hv2
      clear hz1 hz2
      have e1 : ∀ t y, x.cells[t]? = some y → w.cell? ⟨b1, o1 + j * 3 + t, none⟩ = some y := fun t y hy => by rw [Nat.add_assoc]; exact cell1 j x hget t y hy
      have e2 : ∀ t y, x.cells[t]? = some y → w.cell? ⟨b2, o2 + j * 3 + t, none⟩ = some y := fun t y hy => by rw [Nat.add_assoc]; exact cell2 j x hget t y hy
      have s0 := e1 0 _ rfl; have s1 := e1 1 _ rfl; have s2 := e1 2 _ rfl
      have t0 := e2 0 _ rfl; have t1 := e2 1 _ rfl; have t2 := e2 2 _ rfl
      simp only [Nat.add_zero] at s0 t0
      have HJ := Lib.hid hj
      clear hj hget e1 e2 cell1 cell2 hne
      go_wp2_with fail
      go_quiet (fail)
      go_wp2
      go_roundg (gk - 1)
      case measure => omega
      case rel => exact ⟨j + 1, by have := HJ.out; omega, by go_num, _, rfl⟩

/-- The first place of a number, or -1. -/
def idxZ (L : List Nat) (x : Nat) : Int := if x ∈ L then (L.idxOf x : Nat) else -1
theorem idxZ_at {L : List Nat} {x j : Nat} (h : L[j]? = some x) (hb : ∀ k, k < j → L[k]? ≠ some x) : idxZ L x = j := by
  have hm : x ∈ L := List.mem_of_getElem? h
  unfold idxZ
  rw [if_pos hm]
  have h1 := List.idxOf_lt_length_of_mem hm
  have h2 : L[L.idxOf x]? = some x := get_idxOf hm
  have h3 : ¬ L.idxOf x < j := fun q => hb _ q h2
  have h4 : ¬ j < L.idxOf x := fun q => by
    have := List.not_of_lt_findIdx (p := (· == x)) (xs := L) (i := j) q
    have hj := (List.getElem?_eq_some_iff.1 h)
    simp [hj.2] at this
  congr 1
  omega
theorem idxZ_not {L : List Nat} {x : Nat} (h : ∀ k, k < L.length → L[k]? ≠ some x) : idxZ L x = -1 := by
  unfold idxZ
  rw [if_neg (fun q => ?_)]
  obtain ⟨k, hk, e⟩ := List.getElem_of_mem q
  exact h k hk (by rw [List.getElem?_eq_getElem hk, e])

set_option maxHeartbeats 1000000 in
theorem index_c {w : World} {v : Value} {L : List Nat} (x : Nat) (h : Nats w v L) (hlen : L.length ≤ 4611686018427387904) :
    Calls Try.prog 40 #[v, .int .i64 x] w fun r w' => r = .returned (.int .i64 (idxZ L x)) ∧ w' = w := by
  have H := Lib.hid h
  obtain ⟨a, c, rfl⟩ := h.form
  clear h
  go_enter Try.func40, Try.ntmps40
  go_wp2_with fail
  go_loopg [8] L.length (fun n k wr => ∃ j, j + n = L.length ∧ k = .int .i64 j ∧ wr = w ∧ ∀ i, i < j → L[i]? ≠ some x)
  case atStart => exact ⟨0, by omega, rfl, rfl, fun i hi => by omega⟩
  case round =>
    obtain ⟨j, hj, rfl, rfl, hbef⟩ := hrel
    have HB := Lib.hid hbef
    clear hbef
    by_cases hk0 : gk = 0
    · subst hk0
      obtain rfl : j = L.length := by omega
      have e := Lib.hid (idxZ_not HB.out)
      clear hj
      go_wp2
      go_ret
      exact ⟨by rw [e.out]; rfl, rfl⟩
    · have hjl : j < L.length := by omega
      obtain ⟨y, hget⟩ : ∃ y, L[j]? = some y := ⟨_, List.getElem?_eq_getElem hjl⟩
      have hne : L ≠ [] := by intro q; subst q; simp at hjl
      obtain ⟨b1, o1, p1, hv1, cell1⟩ := H.out.cells hne
      simp only [Value.slice.injEq] at hv1
      obtain ⟨rfl, hz1, rfl⟩ := hv1
      clear hz1
      have e1 := cell1 j y hget
      have HJ := Lib.hid hj; have HG := Lib.hid hget
      clear hj hget cell1 hne
      by_cases hxy : x = y
      · subst hxy
        have e := Lib.hid (idxZ_at HG.out HB.out)
        go_wp2
        go_ret
        exact ⟨by rw [e.out]; rfl, rfl⟩
      · have q : (x == y) = false := by simpa using hxy
        have N : Hid (∀ i, i < j + 1 → L[i]? ≠ some x) := fun i hi => by
          by_cases z : i = j
          · subst z; rw [HG.out]; simp; exact fun r => hxy r.symm
          · exact HB.out i (by omega)
        clear hxy
        go_wp2
        go_roundg (gk - 1)
        case measure => omega
        case rel => exact ⟨j + 1, by have := HJ.out; omega, by go_num, rfl, N.out⟩

end Bead
end Go.Proofs.Ytidnmanljdadaaa

/- laws.lists, laws.chosen. -/
namespace Go.Proofs.Ytidnmanljdadaaa
open Go.RowKit
namespace Bead
set_option maxRecDepth 100000

structure LAt (w wr : World) (cs : List Cl) (j : Nat) (v : Value) : Prop where
  own : wr.ownsRow w.heap.size 3 1 v (listsAt 0 (cs.take j)).length (ints (listsAt 0 (cs.take j)))
  below : Below w.heap.size w wr
theorem lists_take {cs : List Cl} {j : Nat} {c : Cl} (h : cs[j]? = some c) : listsAt 0 (cs.take (j + 1)) = listsAt 0 (cs.take j) ++ if madeB c then [j] else [] := by
  obtain ⟨hj, e⟩ := List.getElem?_eq_some_iff.1 h
  rw [List.take_succ_eq_append_getElem hj, e, listsAt_append]
  simp only [List.length_take, listsAt, Nat.zero_add, Nat.min_eq_left (Nat.le_of_lt hj)]
theorem LAt.skip {w wr : World} {cs : List Cl} {j : Nat} {v : Value} {c : Cl} {o : Obj} (h : LAt w wr cs j v) (hc : cs[j]? = some c) (hm : madeB c = false) : LAt w (wr.alloc o) cs (j + 1) v := by
  refine ⟨?_, h.below.alloc h.below.size o⟩
  rw [lists_take hc, hm]
  simpa using h.own.alloc o
theorem LAt.next {w wr w2 : World} {cs : List Cl} {j : Nat} {v v' : Value} {c : Cl} {o o' : Obj} (h : LAt w wr cs j v) (hc : cs[j]? = some c) (hm : madeB c = true)
    (hown : w2.ownsRow w.heap.size 3 1 v' ((listsAt 0 (cs.take j)).length + 1) (ints (listsAt 0 (cs.take j)) ++ [.int .i64 (j : Nat)])) (hg : ((wr.alloc o).alloc o').grownBy w2 v.ownBlock) : LAt w w2 cs (j + 1) v' := by
  refine ⟨?_, below_grown (below_alloc2 h.below o o') ((h.own.alloc o).alloc o') (Nat.le_refl _) hg⟩
  rw [lists_take hc, hm]
  simp only [if_true, List.length_append, List.length_singleton, ints_append]
  exact hown

set_option maxHeartbeats 2000000 in
theorem lists_c {w : World} {v : Value} {cs : List Cl} (s : Scr w v cs) (hlen : cs.length ≤ 1099511627776) :
    Calls Try.prog 17 #[v] w fun r w' => ∃ v', r = .returned v' ∧ w'.ownsRow w.heap.size 3 1 v' (listsOf cs).length (ints (listsOf cs)) ∧ Below w.heap.size w w' := by
  have HSL := Lib.hid s.sl
  obtain ⟨sa, sc, rfl⟩ := s.form
  clear s
  go_enter Try.func17, Try.ntmps17
  go_wp2_with fail
  go_loopg [3, 8] cs.length (fun n l k wr => ∃ j, j + n = cs.length ∧ k = .int .i64 j ∧ LAt w wr cs j l)
  case atStart => exact ⟨0, by omega, rfl, World.ownsRow_nil _ _ _ _, Below.refl _ _⟩
  case round =>
    obtain ⟨j, hj, rfl, hP⟩ := hrel
    by_cases hk0 : gk = 0
    · subst hk0
      obtain rfl : j = cs.length := by omega
      have own := hP.own
      rw [List.take_length] at own
      have OWN := Lib.hid own; have BL := Lib.hid hP.below
      clear hP hj own
      go_wp2
      go_ret
      exact ⟨_, rfl, OWN.out, BL.out⟩
    · have hjl : j < cs.length := by omega
      obtain ⟨c, hget⟩ : ∃ c, cs[j]? = some c := ⟨_, List.getElem?_eq_getElem hjl⟩
      have hne : cs ≠ [] := by intro q; subst q; simp at hjl
      obtain ⟨b, off, cp, hv, hcell⟩ := HSL.out.elem Cl.cells_length (by decide) hne
      simp only [Value.slice.injEq] at hv
      obtain ⟨rfl, _, rfl⟩ := hv
      have hbw : b < w.heap.size := World.block_lt_of_cell? w ⟨b, off + (j * 8 + 0), none⟩ (hcell j c hget 0 _ rfl)
      have cc : ∀ t y, c.cells[t]? = some y → wr.cell? ⟨b, off + j * 8 + t, none⟩ = some y := fun t y hy => by
        rw [hP.below.cell (p := ⟨b, off + j * 8 + t, none⟩) hbw, Nat.add_assoc]; exact hcell j c hget t y hy
      have e0 := cc 0 _ rfl; have e1 := cc 1 _ rfl; have e2 := cc 2 _ rfl; have e3 := cc 3 _ rfl; have e4 := cc 4 _ rfl; have e5 := cc 5 _ rfl; have e6 := cc 6 _ rfl; have e7 := cc 7 _ rfl
      simp only [Nat.add_zero] at e0
      have hll : (listsAt 0 (cs.take j)).length ≤ cs.length := by
        have := listsAt_length (cs.take j) 0
        rw [List.length_take] at this; omega
      have HP := Lib.hid hP; have HG := Lib.hid hget; have HJ := Lib.hid hj
      have szr := hP.below.size
      clear hP hget hj cc hcell hne
      by_cases h01 : c.op = 0 ∨ c.op = 1
      · have HM : Hid (madeB c = true) := by show _ = _; simp [madeB, h01]
        rcases h01 with h01 | h01
        all_goals
          rw [h01] at e0
          clear h01
          go_wp2_with (at_builtin; refine wpList_app2 rfl (.tmp 21) (.tmp 23) 27 rfl w.heap.size 3 _ 1 8 Try.underlying27 Try.infoInt rfl (by decide) _ _ _ rfl ((HP.out.own.alloc _).alloc _) _ 1 [.int .i64 (j : Nat)] rfl (sl_at' _ _ _ _ _ _ (by simp)) rfl (by simp [Value.oneCell']) (.inr (.inr (by decide))) (by omega) (by decide) (by simp; omega) ?_; intro v' w2 hown hg hn; have N2 := Lib.hid (HP.out.next HG.out HM.out hown hg); clear hown hg hn)
          go_roundg (gk - 1)
          case measure => omega
          case rel => exact ⟨j + 1, by have := HJ.out; omega, by go_num, N2.out⟩
      · have HM : Hid (madeB c = false) := by show _ = _; simp only [madeB, decide_eq_false_iff_not]; exact h01
        have q0 : (c.op == 0) = false := by simp; omega
        have q1 : (c.op == 1) = false := by simp; omega
        have N2 := Lib.hid (fun o => HP.out.skip (o := o) HG.out HM.out)
        generalize c.op = op at *
        clear h01
        go_wp2
        go_roundg (gk - 1)
        case measure => omega
        case rel => exact ⟨j + 1, by have := HJ.out; omega, by go_num, N2.out _⟩

theorem chosen_nil {w : World} {v : Value} {L : List Nat} (h : Nats w v L) (hL : L = []) (n : Int) :
    Calls Try.prog 21 #[v, .int .i64 n] w fun r w' => r = .returned (.tuple #[.int .i64 0, .bool false]) ∧ w' = w := by
  obtain ⟨a, c, rfl⟩ := h.form
  subst hL
  clear h
  go_enter Try.func21, Try.ntmps21
  go_wp2
  go_ret2
  exact ⟨rfl, rfl⟩
/-- A number modulo a length, as Go counts it. -/
theorem umod (n : Int) {k : Nat} (hk : 0 < k) (hk2 : k ≤ 1099511627776) : ∃ i : Nat, i < k ∧ wrap64 ((IntKind.u64.wrap n).tmod (k : Int)) = (i : Int) := by
  have h0 : 0 ≤ IntKind.u64.wrap n := by
    have : IntKind.u64.wrap n = n % 18446744073709551616 := by simp [IntKind.wrap, IntKind.bits, IntKind.signed]
    rw [this]; omega
  generalize IntKind.u64.wrap n = u at h0
  rw [Int.tmod_eq_emod_of_nonneg h0]
  have h1 := Int.emod_nonneg u (b := (k : Int)) (by omega)
  have h2 := Int.emod_lt_of_pos u (b := (k : Int)) (by omega)
  refine ⟨(u % (k : Int)).toNat, by omega, ?_⟩
  unfold wrap64
  omega
set_option maxHeartbeats 1000000 in
theorem chosen_c {w : World} {v : Value} {L : List Nat} (h : Nats w v L) (hL : L ≠ []) (hlen : L.length ≤ 1099511627776) (n : Int) :
    Calls Try.prog 21 #[v, .int .i64 n] w fun r w' => ∃ x, x ∈ L ∧ r = .returned (.tuple #[.int .i64 (x : Nat), .bool true]) ∧ w' = w := by
  obtain ⟨b, off, cap, rfl, hc⟩ := h.cells hL
  have hpos : 0 < L.length := List.length_pos_iff.2 hL
  obtain ⟨i, hi, hm⟩ := umod n hpos hlen
  have e := hc i L[i] (List.getElem?_eq_getElem hi)
  have M := Lib.hid (List.getElem_mem hi)
  generalize L[i] = x at e M
  clear hc h hL
  go_enter Try.func21, Try.ntmps21
  go_wp2
  go_ret2
  exact ⟨x, M.out, rfl, rfl⟩
end Bead
end Go.Proofs.Ytidnmanljdadaaa

/- laws.row, laws.forward, laws.backward: a walk through a list. -/
namespace Go.Proofs.Ytidnmanljdadaaa
open Go.RowKit
namespace Bead
set_option maxRecDepth 100000

theorem WF.seq_le {m : Md} (h : WF m) (l : Nat) : (m.seq l).length ≤ m.cnt := nodup_length _ (h.nodup l) (fun _ hx => h.lt hx)

theorem vl_zero_ok : Vl.zero.ok := by refine ⟨?_, ?_, ?_, ?_⟩ <;> simp [Vl.zero]
theorem scr_one (w : World) (c : Cl) (t : TypeId) (hc : c.v.ok) : Scr (w.alloc (.cells c.cells.toArray t)) (.slice (some ⟨w.heap.size, 0, none⟩) 1 1) [c] :=
  ⟨by have := sl_new w c.cells t 1 1; simpa using this, fun n c q => by simp at q, fun x hx => by simp at hx; subst hx; exact hc⟩
theorem walk_okA {most : Nat} {cs : List Cl} (ho : okFrom most Md.init cs = true) (rev : Bool) {l : Nat} (hl : (runFrom Md.init cs).isL l = true) : okFrom most Md.init (cs ++ (runFrom Md.init cs).walk rev l) = true := by
  rw [okFrom_append, ho, walk_ok (WF.run cs WF.init ho) rev hl]; rfl
theorem walkC_ok {rev : Bool} {l k n : Nat} : ∀ c ∈ walkC rev l k n, c.v.ok := by
  intro c hc
  simp only [walkC, List.mem_cons, List.mem_map] at hc
  rcases hc with rfl | ⟨j, _, rfl⟩
  · exact vl_zero_ok
  · exact vl_zero_ok

/-- The first loop: the calls of the walk. -/
structure RAt (w wr : World) (cs : List Cl) (rev : Bool) (l j : Nat) (v : Value) : Prop where
  own : wr.ownsRow w.heap.size 32 8 v (cs.length + j + 1) ((cs ++ walkC rev l cs.length j).flatMap Cl.cells)
  below : Below w.heap.size w wr
theorem RAt.next {w wr w2 : World} {cs : List Cl} {rev : Bool} {l j : Nat} {v v' : Value} {o : Obj} {X : List Value} (h : RAt w wr cs rev l j v) (hX : X = (cOn rev (cs.length + j)).cells)
    (hown : w2.ownsRow w.heap.size 32 8 v' (cs.length + j + 1 + 1) ((cs ++ walkC rev l cs.length j).flatMap Cl.cells ++ X)) (hg : (wr.alloc o).grownBy w2 v.ownBlock) : RAt w w2 cs rev l (j + 1) v' := by
  refine ⟨?_, below_grown (h.below.alloc h.below.size o) (h.own.alloc o) (Nat.le_refl _) hg⟩
  rw [walkC_succ, ← List.append_assoc, cells_app (cs ++ walkC rev l cs.length j)]
  subst hX
  simpa [Nat.add_assoc] using hown
theorem RAt.start {w w1 w2 : World} {cs : List Cl} {rev : Bool} {l : Nat} {v v' : Value} {o : Obj} (hb : Below w.heap.size w w1) (h : w1.ownsRow w.heap.size 32 8 v cs.length (cs.flatMap Cl.cells))
    (hown : w2.ownsRow w.heap.size 32 8 v' (cs.length + 1) (cs.flatMap Cl.cells ++ (cEnd rev l).cells)) (hg : (w1.alloc o).grownBy w2 v.ownBlock) : RAt w w2 cs rev l 0 v' := by
  refine ⟨?_, below_grown (hb.alloc hb.size o) (h.alloc o) (Nat.le_refl _) hg⟩
  simpa [walkC, cells_app] using hown
/-- The second loop: the elements. -/
structure EAt (w wr : World) (L : List Nat) (j : Nat) (v : Value) : Prop where
  own : wr.ownsRow w.heap.size 3 1 v j (ints (L.take j))
  below : Below w.heap.size w wr
theorem ints_snoc {L : List Nat} {j x : Nat} (h : L[j]? = some x) : ints (L.take (j + 1)) = ints (L.take j) ++ [.int .i64 (x : Nat)] := by
  obtain ⟨hj, e⟩ := List.getElem?_eq_some_iff.1 h
  rw [List.take_succ_eq_append_getElem hj, ints_append, e]; rfl
theorem EAt.next {w wr w2 : World} {L : List Nat} {j x : Nat} {v v' : Value} {o o' : Obj} (h : EAt w wr L j v) (hx : L[j]? = some x)
    (hown : w2.ownsRow w.heap.size 3 1 v' (j + 1) (ints (L.take j) ++ [.int .i64 (x : Nat)])) (hg : ((wr.alloc o).alloc o').grownBy w2 v.ownBlock) : EAt w w2 L (j + 1) v' :=
  ⟨by rw [ints_snoc hx]; exact hown, below_grown (below_alloc2 h.below o o') ((h.own.alloc o).alloc o') (Nat.le_refl _) hg⟩

def endOp (rev : Bool) : Int := if rev then 16 else 15
def onOp (rev : Bool) : Int := if rev then 19 else 18

theorem cOn_cells (rev : Bool) (a j : Nat) : [.int .i64 (onOp rev), .int .i64 0, .int .i64 0, .int .i64 ((a : Int) + (j : Int)), .int .i64 0, .int .i64 0, .int .i64 0, .string ⟨#[]⟩] = (cOn rev (a + j)).cells := by
  simp only [Cl.cells, cOn, Int.natCast_add]; rfl

set_option maxHeartbeats 4000000 in
theorem row_c {w : World} {v : Value} {cs : List Cl} {most : Nat} (rev : Bool) {l : Nat} (s : Scr w v cs) (hok : okFrom most Md.init cs = true) (hl : (runFrom Md.init cs).isL l = true) (hmost : most ≤ 2000) (hn : cs.length ≤ 549755813888) :
    Calls Try.prog 41 #[v, .int .i64 l, .int .i64 (endOp rev), .int .i64 (onOp rev)] w fun r w' => ∃ v2 v3, r = .returned (.tuple #[v2, v3, .bool true]) ∧ Scr w' v2 (cs ++ (runFrom Md.init cs).walk rev l) ∧
      w'.ownsRow w.heap.size 3 1 v3 ((runFrom Md.init cs).seq l).length (ints ((runFrom Md.init cs).names (dir rev ((runFrom Md.init cs).seq l)))) ∧ Below w.heap.size w w' := by
  have hw := WF.run cs WF.init hok
  have hnl : ((runFrom Md.init cs).seq l).length ≤ 2000 := by
    have := hw.seq_le l
    have := run_cnt_le _ hok (by simp [Md.init])
    omega
  have B1 : Hid (∀ t, Calls Try.prog 46 #[v, .slice (some ⟨w.heap.size, 0, none⟩) 1 1] (w.alloc (.cells #[.int .i64 17, .int .i64 l, .int .i64 0, .int .i64 0, .int .i64 0, .int .i64 0, .int .i64 0, .string ⟨#[]⟩] t)) fun r w' => ∃ v', r = .returned v' ∧ Sl w' v' 1 ((ansFrom (runFrom Md.init cs) [cLen l]).flatMap An.cells) ∧ Value.room (w.alloc (.cells (cLen l).cells.toArray t)).heap.size v' ∧ Below (w.alloc (.cells (cLen l).cells.toArray t)).heap.size (w.alloc (.cells (cLen l).cells.toArray t)) w') := fun t =>
    behind_c (s.later (below1 w _)) (scr_one w (cLen l) t vl_zero_ok) (ok_len hok hl) (by omega) (by simp; omega)
  have HOK := Lib.hid hok; have HL := Lib.hid hl; have HW := Lib.hid hw; have S := Lib.hid s
  obtain ⟨sa, sc, rfl⟩ := s.form
  have hm : ∃ M, M = runFrom Md.init cs := ⟨_, rfl⟩
  clear s hok hl hw
  go_enter Try.func41, Try.ntmps41
  go_wp2_with fail
  refine (B1.out _).mono ?_
  rintro r w1 ⟨v1, rfl, s1, _, hb1⟩
  rw [ans_len] at s1
  have BL1 := Lib.hid ((below1 w _).trans (hb1.mono (by simp)))
  obtain ⟨p1, o1, c1, rfl, cell1⟩ := s1.elem (l := [(⟨-1, (((runFrom Md.init cs).seq l).length : Nat), Vl.zero⟩ : An)]) An.cells_length (by decide) (by simp)
  have e1 : w1.cell? ⟨p1, o1 + 1, none⟩ = some (.int .i64 (((runFrom Md.init cs).seq l).length : Nat)) := cell1 0 _ rfl 1 _ rfl
  have CL := Lib.hid (clone_c (S.out.sl.later BL1.out) S.out.fair (by omega))
  clear hb1 s1 cell1 B1
  generalize hN : ((runFrom Md.init cs).seq l).length = N at *
  have HN := Lib.hid hN
  clear hN
  have q0 : decide ((N : Int) < 0) = false := by simp
  have q1 : decide (2000 < (N : Int)) = false := by simp; omega
  go_wp2_with fail
  refine CL.out.mono ?_
  rintro r w2 ⟨vc, rfl, rc, hb2⟩
  have BL2 := Lib.hid (BL1.out.trans (hb2.mono BL1.out.size))
  have RC := Lib.hid (own_base rc BL1.out.size)
  have sz2 := BL2.out.size
  clear hb2 rc CL
  go_wp2_with (at_builtin; refine wpList_app2 rfl (.tmp 31) (.tmp 35) 22 rfl w.heap.size 32 _ 8 72 Try.underlying22 Try.infoICall rfl (by decide) _ _ _ rfl (RC.out.alloc _) _ 1 (cEnd rev l).cells rfl (sl_at' _ _ _ _ _ _ (by simp)) rfl (by simp [Cl.cells, Value.oneCell']) (.inr (.inr (by decide))) (by omega) (by decide) (by simp; omega) ?_; intro v' w3 hown hg hn; have R0 := Lib.hid (RAt.start BL2.out RC.out hown hg); clear hown hg hn)
  go_loopg [8, 38] N (fun n v k wr => ∃ j, j + n = N ∧ k = .int .i64 j ∧ RAt w wr cs rev l j v)
  case atStart => exact ⟨0, by omega, rfl, R0.out⟩
  case round =>
    clear R0 RC sz2
    obtain ⟨j, hj, rfl, hR⟩ := hrel
    obtain ⟨x1, x2, hx⟩ := own_len hR.own
    subst hx
    have sz3 := hR.below.size
    have HR := Lib.hid hR; have HJ := Lib.hid hj
    clear hR
    by_cases hk0 : gk = 0
    · subst hk0
      obtain rfl : j = N := by omega
      clear hj
      have hw := HW.out
      have ec : walkC rev l cs.length j = (runFrom Md.init cs).walk rev l := by unfold Md.walk; rw [run_init_len, HN.out]
      have OWN := HR.out.own
      rw [cells_app, ec, show cs.length + j + 1 = cs.length + (j + 1) by omega] at OWN
      have LW := walk_length (runFrom Md.init cs) rev l
      rw [HN.out] at LW
      have hx2 : cs.length + (j + 1) ≤ x2 := by
        rcases OWN.2 with ⟨q, z⟩ | ⟨_, _, _, q, _, _, hz, _⟩
        · simp only [Value.slice.injEq] at q; omega
        · simp only [Value.slice.injEq] at q; omega
      have SC : ∀ c, Scr wr (.slice (Option.map (fun x => x.add (cs.length * 8)) x1) (j + 1) c) ((runFrom Md.init cs).walk rev l) := fun c => by
        have q := sl_drop OWN (flat_length _ 8 Cl.cells_length _) c
        rw [← LW] at q ⊢
        refine ⟨q, ?_, walkC_ok⟩
        obtain ⟨b, cap, hf⟩ := own_form OWN (by omega)
        simp only [Value.slice.injEq] at hf
        rw [hf.1]
        intro n c q; simp at q
      have BH := Lib.hid (fun c => behind_c (S.out.later HR.out.below) (SC c) (walk_okA HOK.out rev HL.out) (by omega) (by rw [LW]; omega))
      have SC2 : Hid (Scr wr (.slice x1 (cs.length + j + 1) x2) (cs ++ (runFrom Md.init cs).walk rev l)) := by
        have q := HR.out.own
        rw [ec] at q
        refine Scr.of_own (B := w.heap.size) (by rw [List.length_append, LW]; exact q) (fun c hc => ?_)
        rcases List.mem_append.1 hc with q | q
        · exact S.out.ok c q
        · exact walkC_ok c q
      have AN := walk_ans hw rev HL.out
      have NL := names_length (m := runFrom Md.init cs) (dir rev ((runFrom Md.init cs).seq l))
      rw [dir_length, HN.out] at NL
      have LW' := Lib.hid LW; have AN' := Lib.hid AN; have NL' := Lib.hid NL
      clear SC OWN ec hw LW AN NL
      go_wp2_with fail
      rw [show cs.length + j + 1 - cs.length = j + 1 by omega]
      refine (BH.out _).mono ?_
      rintro r w4 ⟨va, rfl, s4, rm4, hb4⟩
      rw [LW'.out, AN'.out] at s4
      have BL4 := Lib.hid (HR.out.below.trans (hb4.mono sz3))
      have SC4 := Lib.hid (SC2.out.later hb4)
      generalize hNM : (runFrom Md.init cs).names (dir rev ((runFrom Md.init cs).seq l)) = NM at *
      obtain ⟨b4, o4, c4, hva, cell4⟩ := Sl.elem (l := NM.map (fun (n : Nat) => (⟨(n : Nat), 0, Vl.zero⟩ : An)) ++ [An.no]) An.cells_length (by decide) (by rw [List.length_append, List.length_map, NL'.out]; exact s4) (by simp)
      rw [List.length_append, List.length_map, NL'.out] at hva
      simp only [List.length_singleton] at hva
      subst hva
      have hc4 := rm4.1 _ _ _ rfl
      have HNM := Lib.hid hNM
      have CELL : Hid (∀ (i x : Nat), NM[i]? = some x → ∀ t y, (⟨(x : Nat), 0, Vl.zero⟩ : An).cells[t]? = some y → w4.cell? ⟨b4, o4 + i * 5 + t, none⟩ = some y) := fun i x hx t y hy => by
        rw [Nat.add_assoc]
        exact cell4 i _ (by rw [List.getElem?_append_left (by have := (List.getElem?_eq_some_iff.1 hx).1; simpa using this), List.getElem?_map, hx]; rfl) t y hy
      have LAST : w4.cell? ⟨b4, o4 + j * 5, none⟩ = some (.int .i64 (-1)) := by
        have := cell4 j An.no (by rw [List.getElem?_append_right (by rw [List.length_map, NL'.out]; exact Nat.le_refl _)]; simp [NL'.out]) 0 _ rfl
        simpa [An.no] using this
      have B4 : Hid (b4 < w4.heap.size) := World.block_lt_of_cell? w4 _ LAST
      have LASTH := Lib.hid LAST
      clear hb4 s4 rm4 cell4 BH SC2 hNM LAST
      go_wp2_with fail
      go_loopg [8, 9, 59] j (fun n v8 v k wr' => ∃ i, i + n = j ∧ v8 = .slice x1 (cs.length + j + 1) x2 ∧ k = .int .i64 i ∧ EAt w4 wr' NM i v)
      case atStart => exact ⟨0, by omega, rfl, rfl, World.ownsRow_nil _ _ _ _, Below.refl _ _⟩
      case round =>
        obtain ⟨i, hi, rfl, rfl, hE⟩ := hrel
        by_cases hk0 : gk = 0
        · subst hk0
          obtain rfl : i = j := by omega
          have last : wr.cell? ⟨b4, o4 + i * 5, none⟩ = some (.int .i64 (-1)) := (hE.below.cell (p := ⟨b4, o4 + i * 5, none⟩) B4.out).trans LASTH.out
          have FIN : Hid (Scr wr (.slice x1 (cs.length + i + 1) x2) (cs ++ (runFrom Md.init cs).walk rev l) ∧ wr.ownsRow w.heap.size 3 1 u9 ((runFrom Md.init cs).seq l).length (ints ((runFrom Md.init cs).names (dir rev ((runFrom Md.init cs).seq l)))) ∧ Below w.heap.size w wr) := by
            have own := hE.own
            rw [List.take_of_length_le (by rw [NL'.out]; exact Nat.le_refl _)] at own
            refine ⟨SC4.out.later hE.below, ?_, BL4.out.trans (hE.below.mono BL4.out.size)⟩
            rw [HN.out, HNM.out]
            exact own_base own BL4.out.size
          clear hE hi
          go_wp2_with fail
          go_quiet (fail)
          go_wp2
          go_ret3
          exact ⟨_, _, rfl, FIN.out.1.later (Below.drewN' (Below.refl _ _) _), FIN.out.2.1, Below.drewN' FIN.out.2.2 _⟩
        · have hil : i < NM.length := by rw [NL'.out]; omega
          obtain ⟨x, hx⟩ : ∃ x, NM[i]? = some x := ⟨_, List.getElem?_eq_getElem hil⟩
          have cc : ∀ t y, (⟨(x : Nat), 0, Vl.zero⟩ : An).cells[t]? = some y → wr.cell? ⟨b4, o4 + i * 5 + t, none⟩ = some y := fun t y hy => (hE.below.cell (p := ⟨b4, o4 + i * 5 + t, none⟩) B4.out).trans (CELL.out i x hx t y hy)
          have e0 := cc 0 _ rfl; have e1' := cc 1 _ rfl; have e2 := cc 2 _ rfl; have e3 := cc 3 _ rfl; have e4 := cc 4 _ rfl
          simp only [Nat.add_zero] at e0
          have szr := hE.below.size
          have HE := Lib.hid hE; have HX := Lib.hid hx; have HI := Lib.hid hi
          have hij : i < j := by omega
          clear hE hx hi cc hil
          go_wp2_with (at_builtin; refine wpList_app2 rfl (.tmp 68) (.tmp 71) 27 rfl w4.heap.size 3 _ 1 8 Try.underlying27 Try.infoInt rfl (by decide) _ _ _ rfl ((HE.out.own.alloc _).alloc _) _ 1 [.int .i64 (x : Nat)] rfl (sl_at' _ _ _ _ _ _ (by simp)) rfl (by simp [Value.oneCell']) (.inr (.inr (by decide))) (by omega) (by decide) (by simp; omega) ?_; intro v' w3 hown hg hn; have N2 := Lib.hid (HE.out.next HX.out hown hg); clear hown hg hn)
          go_roundg (gk - 1)
          case measure => omega
          case rel => exact ⟨i + 1, by have := HI.out; omega, rfl, by go_num, N2.out⟩
    · have hjn : j < N := by omega
      clear hj
      go_wp2_with (at_builtin; refine wpList_app2 rfl (.tmp 40) (.tmp 46) 22 rfl w.heap.size 32 _ 8 72 Try.underlying22 Try.infoICall rfl (by decide) _ _ _ rfl (HR.out.own.alloc _) _ 1 [.int .i64 (onOp rev), .int .i64 0, .int .i64 0, .int .i64 ((cs.length : Int) + (j : Int)), .int .i64 0, .int .i64 0, .int .i64 0, .string ⟨#[]⟩] rfl (sl_at' _ _ _ _ _ _ (by simp)) rfl (by simp [Value.oneCell']) (.inr (.inr (by decide))) (by omega) (by decide) (by simp; omega) ?_; intro v' w3 hown hg hn; have N2 := Lib.hid (HR.out.next (cOn_cells rev cs.length j) hown hg); clear hown hg hn)
      go_roundg (gk - 1)
      case measure => omega
      case rel => exact ⟨j + 1, by have := HJ.out; omega, by go_num, N2.out⟩

theorem forward_c {w : World} {v : Value} {cs : List Cl} {most : Nat} {l : Nat} (s : Scr w v cs) (hok : okFrom most Md.init cs = true) (hl : (runFrom Md.init cs).isL l = true) (hmost : most ≤ 2000) (hn : cs.length ≤ 549755813888) :
    Calls Try.prog 18 #[v, .int .i64 l] w fun r w' => ∃ v2 v3, r = .returned (.tuple #[v2, v3, .bool true]) ∧ Scr w' v2 (cs ++ (runFrom Md.init cs).walk false l) ∧
      w'.ownsRow w.heap.size 3 1 v3 ((runFrom Md.init cs).seq l).length (ints ((runFrom Md.init cs).names ((runFrom Md.init cs).seq l))) ∧ Below w.heap.size w w' := by
  have RC := Lib.hid (row_c false s hok hl hmost hn)
  obtain ⟨sa, sc, rfl⟩ := s.form
  clear s hok hl
  go_enter Try.func18, Try.ntmps18
  go_wp2_with fail
  refine RC.out.mono ?_
  rintro r w1 ⟨v2, v3, rfl, h1, h2, h3⟩
  have F := Lib.hid (And.intro h1 (And.intro h2 h3))
  clear h1 h2 h3 RC
  go_wp2
  go_ret3
  exact ⟨_, _, rfl, F.out.1, F.out.2.1, F.out.2.2⟩
theorem backward_c {w : World} {v : Value} {cs : List Cl} {most : Nat} {l : Nat} (s : Scr w v cs) (hok : okFrom most Md.init cs = true) (hl : (runFrom Md.init cs).isL l = true) (hmost : most ≤ 2000) (hn : cs.length ≤ 549755813888) :
    Calls Try.prog 45 #[v, .int .i64 l] w fun r w' => ∃ v2 v3, r = .returned (.tuple #[v2, v3, .bool true]) ∧ Scr w' v2 (cs ++ (runFrom Md.init cs).walk true l) ∧
      w'.ownsRow w.heap.size 3 1 v3 ((runFrom Md.init cs).seq l).length (ints ((runFrom Md.init cs).names ((runFrom Md.init cs).seq l).reverse)) ∧ Below w.heap.size w w' := by
  have RC := Lib.hid (row_c true s hok hl hmost hn)
  obtain ⟨sa, sc, rfl⟩ := s.form
  clear s hok hl
  go_enter Try.func45, Try.ntmps45
  go_wp2_with fail
  refine RC.out.mono ?_
  rintro r w1 ⟨v2, v3, rfl, h1, h2, h3⟩
  have F := Lib.hid (And.intro h1 (And.intro h2 h3))
  clear h1 h2 h3 RC
  go_wp2
  go_ret3
  exact ⟨_, _, rfl, F.out.1, F.out.2.1, F.out.2.2⟩
end Bead
end Go.Proofs.Ytidnmanljdadaaa
