/- FnKeepsValues: for every two values, what an element is given is read from it again, and Remove returns it. -/
import Derived.Test.YthpgkmkdknmibaaPlay
import Derived.Lib.QuietBelow
import Derived.Deep.DeepCutAuto
import Derived.Laws.StructEq
namespace Go.Proofs.Ythpgkmkdknmibaa
open Go.RowKit Go.Sort
namespace Bead
set_option maxRecDepth 100000

def keepScript (v u : Vl) : List Cl :=
  [⟨0, 0, 0, 0, 0, Vl.zero⟩, ⟨4, 0, 0, 0, 0, v⟩, ⟨20, 0, 0, 1, 0, Vl.zero⟩, ⟨21, 0, 0, 1, 0, u⟩, ⟨20, 0, 0, 1, 0, Vl.zero⟩, ⟨11, 0, 0, 1, 0, Vl.zero⟩, ⟨21, 0, 0, 1, 0, v⟩, ⟨11, 0, 0, 1, 0, Vl.zero⟩, ⟨2, 0, 0, 0, 0, u⟩, ⟨20, 0, 0, 8, 0, Vl.zero⟩, ⟨2, 0, 0, 0, 0, v⟩, ⟨20, 0, 0, 10, 0, Vl.zero⟩]

theorem keep_ok (v u : Vl) : okFrom 10 Md.init (keepScript v u) = true := by
  rfl
theorem keep_ans (v u : Vl) : ansFrom Md.init (keepScript v u) =
    [An.no, ⟨1, 0, Vl.zero⟩, ⟨-1, 0, canon v⟩, An.no, ⟨-1, 0, canon u⟩, ⟨-1, 0, canon u⟩, An.no, ⟨-1, 0, canon v⟩, ⟨8, 0, Vl.zero⟩, ⟨-1, 0, canon u⟩, ⟨10, 0, Vl.zero⟩, ⟨-1, 0, canon v⟩] := by
  rfl

def kindOf (v : Vl) : Int := if v.kind < 0 ∨ v.kind > 6 then 0 else v.kind
theorem canon_kind (v : Vl) : (canon v).kind = kindOf v := by
  unfold canon kindOf
  (repeat' split) <;> (try simp only [Vl.zero]) <;> omega

theorem kind_c (v : Vl) (w : World) : Calls Try.prog 7 #[v.agg] w fun r w' => r = .returned (.int .i64 (kindOf v)) ∧ Below w.heap.size w w' := by
  unfold Vl.agg
  by_cases h1 : v.kind < 0
  · have e1 : kindOf v = 0 := by unfold kindOf; rw [if_pos (.inl h1)]
    rw [e1]
    clear e1
    go_enter Try.func7, Try.ntmps7
    go_wp2
    go_ret
    exact ⟨rfl, (Below.refl _ _).alloc (Nat.le_refl _) _⟩
  · have d1 : decide (v.kind < 0) = false := by simpa using h1
    by_cases h2 : 6 < v.kind
    · have e1 : kindOf v = 0 := by unfold kindOf; rw [if_pos (.inr h2)]
      rw [e1]
      clear e1
      go_enter Try.func7, Try.ntmps7
      go_wp2
      go_ret
      exact ⟨rfl, (Below.refl _ _).alloc (Nat.le_refl _) _⟩
    · have e1 : kindOf v = v.kind := by unfold kindOf; rw [if_neg (by omega)]
      rw [e1]
      clear e1
      go_enter Try.func7, Try.ntmps7
      go_wp2
      go_ret
      exact ⟨rfl, (Below.refl _ _).alloc (Nat.le_refl _) _⟩

theorem sl_at (W : World) (l : List Value) (t : TypeId) (n cap k : Nat) (hk : W.heap.size = k) : Sl (W.alloc (.cells l.toArray t)) (.slice (some ⟨k, 0, none⟩) n cap) n l := by
  subst hk; exact sl_new W l t n cap

theorem two_new (w : World) (A C : Obj) : ((w.alloc A).alloc C).heap[w.heap.size]? = some A ∧ ((w.alloc A).alloc C).heap[w.heap.size + 1]? = some C := by
  refine ⟨heap_alloc_keep (heap_alloc_new w A), ?_⟩
  have := heap_alloc_new (w.alloc A) C
  have e : (w.alloc A).heap.size = w.heap.size + 1 := by simp
  rwa [e] at this

set_option maxHeartbeats 1000000 in
theorem keeps_c (v u : Vl) (hv : v.ok) (hu : u.ok) (w : World) : Calls Try.prog 3 #[v.agg, u.agg] w fun r w' => r = .returned (.bool true) ∧ Below w.heap.size w w' := by
  have HV := Lib.hid hv; have HU := Lib.hid hu
  clear hv hu
  unfold Vl.agg
  go_enter Try.func3, Try.ntmps3
  go_wp2_with fail
  refine (play_c (cs := keepScript v u) (most := 10) (sl_at _ _ _ _ _ _ (by simp)) (by simp [keepScript]) ?_ (keep_ok v u) (by decide) (by simp [keepScript])).mono ?_
  · intro c hc
    simp only [keepScript, List.mem_cons, List.not_mem_nil, or_false] at hc
    have hz : Vl.zero.ok := by simp [Vl.ok, Vl.zero]
    rcases hc with rfl | rfl | rfl | rfl | rfl | rfl | rfl | rfl | rfl | rfl | rfl | rfl
    all_goals first | exact hz | exact HV.out | exact HU.out
  rintro r w1 ⟨out, rfl, hown, hb⟩
  rw [keep_ans] at hown
  have hb1 : Below w.heap.size w w1 := (((((Below.refl _ _).alloc (Nat.le_refl _) _).alloc (by simp) _).alloc (by simp; omega) _).trans (hb.mono (by simp; omega)))
  rcases hown.2 with ⟨_, q⟩ | ⟨g, cap, cur, rfl, _, hg, hcap, _⟩
  · simp [keepScript] at q
  have hcells := hown.cells (g := g) rfl
  have k2a : w1.cell? ⟨g, 12, none⟩ = some (.int .i64 (canon v).kind) := hcells 12 _ rfl
  have k2b : w1.cell? ⟨g, 13, none⟩ = some (.int .i64 (canon v).n) := hcells 13 _ rfl
  have k2c : w1.cell? ⟨g, 14, none⟩ = some (.string (canon v).s) := hcells 14 _ rfl
  have k4a : w1.cell? ⟨g, 22, none⟩ = some (.int .i64 (canon u).kind) := hcells 22 _ rfl
  have k4b : w1.cell? ⟨g, 23, none⟩ = some (.int .i64 (canon u).n) := hcells 23 _ rfl
  have k4c : w1.cell? ⟨g, 24, none⟩ = some (.string (canon u).s) := hcells 24 _ rfl
  have k5a : w1.cell? ⟨g, 27, none⟩ = some (.int .i64 (canon u).kind) := hcells 27 _ rfl
  have k5b : w1.cell? ⟨g, 28, none⟩ = some (.int .i64 (canon u).n) := hcells 28 _ rfl
  have k5c : w1.cell? ⟨g, 29, none⟩ = some (.string (canon u).s) := hcells 29 _ rfl
  have k7a : w1.cell? ⟨g, 37, none⟩ = some (.int .i64 (canon v).kind) := hcells 37 _ rfl
  have k7b : w1.cell? ⟨g, 38, none⟩ = some (.int .i64 (canon v).n) := hcells 38 _ rfl
  have k7c : w1.cell? ⟨g, 39, none⟩ = some (.string (canon v).s) := hcells 39 _ rfl
  have k9a : w1.cell? ⟨g, 47, none⟩ = some (.int .i64 (canon u).kind) := hcells 47 _ rfl
  have k9b : w1.cell? ⟨g, 48, none⟩ = some (.int .i64 (canon u).n) := hcells 48 _ rfl
  have k9c : w1.cell? ⟨g, 49, none⟩ = some (.string (canon u).s) := hcells 49 _ rfl
  have k11a : w1.cell? ⟨g, 57, none⟩ = some (.int .i64 (canon v).kind) := hcells 57 _ rfl
  have k11b : w1.cell? ⟨g, 58, none⟩ = some (.int .i64 (canon v).n) := hcells 58 _ rfl
  have k11c : w1.cell? ⟨g, 59, none⟩ = some (.string (canon v).s) := hcells 59 _ rfl
  have hlen : (keepScript v u).length = 12 := rfl
  rw [hlen] at hcap ⊢
  have hgl : g < w1.heap.size := World.block_lt_of_cell? w1 _ k2a
  have hA := heap_alloc_keep (o := .cells ((keepScript v u).flatMap Cl.cells).toArray 27) (heap_alloc_keep (o := .cells #[.int .i64 u.kind, .int .i64 u.n, .string u.s] 23) (heap_alloc_new w (.cells #[.int .i64 v.kind, .int .i64 v.n, .string v.s] 23)))
  have hA1 := (hb.block w.heap.size (by simp <;> omega)).trans hA
  have hBn := heap_alloc_new (w.alloc (.cells #[.int .i64 v.kind, .int .i64 v.n, .string v.s] 23)) (.cells #[.int .i64 u.kind, .int .i64 u.n, .string u.s] 23)
  have hsz1 : (w.alloc (.cells #[.int .i64 v.kind, .int .i64 v.n, .string v.s] 23)).heap.size = w.heap.size + 1 := by simp
  rw [hsz1] at hBn
  have hB1 := (hb.block (w.heap.size + 1) (by simp <;> omega)).trans (heap_alloc_keep (o := .cells ((keepScript v u).flatMap Cl.cells).toArray 27) hBn)
  have HB := Lib.hid hb1
  generalize hca : canon v = a at *
  generalize hcb : canon u = b at *
  have KA : Hid (a.kind = kindOf v) := by rw [← hca]; exact canon_kind v
  have KB : Hid (b.kind = kindOf u) := by rw [← hcb]; exact canon_kind u
  clear hcells hown hg hlen hA hBn hsz1 hb hb1 hca hcb
  have HA1 := Lib.hid hA1; have HB1 := Lib.hid hB1
  clear hA1 hB1
  go_wp2_with fail
  go_cut [6, 7] (fun x y wr => ∃ i j : Nat, x = .pointer (some ⟨i, 0, none⟩) ∧ y = .pointer (some ⟨j, 0, none⟩) ∧ wr.heap[i]? = some (Obj.cells #[.int .i64 a.kind, .int .i64 a.n, .string a.s] 23 (0, 0)) ∧ wr.heap[j]? = some (Obj.cells #[.int .i64 b.kind, .int .i64 b.n, .string b.s] 23 (0, 0)) ∧ Below w1.heap.size w1 wr)
  case first =>
    go_region
    all_goals
      go_wp2_with fail
      go_meet
      first
        | exact ⟨_, _, rfl, rfl, (two_new w1 _ _).1, (two_new w1 _ _).2, (((Below.refl _ _).alloc (Nat.le_refl _) _).alloc (by simp) _).drew⟩
        | exact ⟨_, _, rfl, rfl, (two_new w1 _ _).2, (two_new w1 _ _).1, (((Below.refl _ _).alloc (Nat.le_refl _) _).alloc (by simp) _).drew⟩
  case rest =>
    obtain ⟨i, j, rfl, rfl, h0, h1, h2⟩ := hcut
    have hszw := HB.out.size
    have hlw : w.heap.size + 1 < w1.heap.size := (Array.getElem?_eq_some_iff.1 HB1.out).1
    have Rk2a := cell_regrown ((h2.cell (p := ⟨g, _, none⟩) hgl).trans k2a)
    have Rk2b := cell_regrown ((h2.cell (p := ⟨g, _, none⟩) hgl).trans k2b)
    have Rk2c := cell_regrown ((h2.cell (p := ⟨g, _, none⟩) hgl).trans k2c)
    have Rk4a := cell_regrown ((h2.cell (p := ⟨g, _, none⟩) hgl).trans k4a)
    have Rk4b := cell_regrown ((h2.cell (p := ⟨g, _, none⟩) hgl).trans k4b)
    have Rk4c := cell_regrown ((h2.cell (p := ⟨g, _, none⟩) hgl).trans k4c)
    have Rk5a := cell_regrown ((h2.cell (p := ⟨g, _, none⟩) hgl).trans k5a)
    have Rk5b := cell_regrown ((h2.cell (p := ⟨g, _, none⟩) hgl).trans k5b)
    have Rk5c := cell_regrown ((h2.cell (p := ⟨g, _, none⟩) hgl).trans k5c)
    have Rk7a := cell_regrown ((h2.cell (p := ⟨g, _, none⟩) hgl).trans k7a)
    have Rk7b := cell_regrown ((h2.cell (p := ⟨g, _, none⟩) hgl).trans k7b)
    have Rk7c := cell_regrown ((h2.cell (p := ⟨g, _, none⟩) hgl).trans k7c)
    have Ri0 := cell_regrown (cell_of_heap (o := 0) h0 rfl)
    have Ri1 := cell_regrown (cell_of_heap (o := 1) h0 rfl)
    have Ri2 := cell_regrown (cell_of_heap (o := 2) h0 rfl)
    have Rj0 := cell_regrown (cell_of_heap (o := 0) h1 rfl)
    have Rj1 := cell_regrown (cell_of_heap (o := 1) h1 rfl)
    have Rj2 := cell_regrown (cell_of_heap (o := 2) h1 rfl)
    have Rt0 := cell_regrown (cell_of_heap (o := 0) ((h2.block w.heap.size (by omega)).trans HA1.out) rfl)
    have Rt1 := cell_regrown (cell_of_heap (o := 1) ((h2.block w.heap.size (by omega)).trans HA1.out) rfl)
    have Rt2 := cell_regrown (cell_of_heap (o := 2) ((h2.block w.heap.size (by omega)).trans HA1.out) rfl)
    have Rs0 := cell_regrown (cell_of_heap (o := 0) ((h2.block (w.heap.size + 1) (by omega)).trans HB1.out) rfl)
    have Rs1 := cell_regrown (cell_of_heap (o := 1) ((h2.block (w.heap.size + 1) (by omega)).trans HB1.out) rfl)
    have Rs2 := cell_regrown (cell_of_heap (o := 2) ((h2.block (w.heap.size + 1) (by omega)).trans HB1.out) rfl)
    have CV : ∀ d os, Calls Try.prog 7 #[.agg #[.int .i64 v.kind, .int .i64 v.n, .string v.s]] (grow (redrawn wc d) os) fun e w'' => e = .returned (.int .i64 (kindOf v)) ∧ ∃ p : Regrown, w'' = grow (redrawn wc p.d) p.os := fun d os => Calls.regrown_of (kind_c v (grow (redrawn wc d) os))
    have CU : ∀ d os, Calls Try.prog 7 #[.agg #[.int .i64 u.kind, .int .i64 u.n, .string u.s]] (grow (redrawn wc d) os) fun e w'' => e = .returned (.int .i64 (kindOf u)) ∧ ∃ p : Regrown, w'' = grow (redrawn wc p.d) p.os := fun d os => Calls.regrown_of (kind_c u (grow (redrawn wc d) os))
    have HCV := Lib.hid CV
    have HCU := Lib.hid CU
    have H2 := Lib.hid h2
    clear CV CU h0 h1 h2 hgl HA1 HB1 k2a k2b k2c k4a k4b k4c k5a k5b k5c k7a k7b k7c
    have qa : (kindOf v == kindOf v) = true := by simp
    have qb : (kindOf u == kindOf u) = true := by simp
    simp only [KA.out, KB.out] at *
    go_wp2_with fail
    refine wp_region_quiet_below (by kernel_rfl) (by kernel_rfl) ?_
    repeat (quiet_step (first | (with_reducible exact HCV.out _ _) | (with_reducible exact HCU.out _ _)))
    refine wpQuiet_nil ?_
    intro _ hw'
    obtain ⟨⟨dq, osq⟩, hw''⟩ := hw'
    subst hw''
    go_wp2
    go_ret
    exact ⟨rfl, (HB.out.trans (H2.out.mono hszw)).trans ((below_regrown wc dq osq).mono (Nat.le_trans hszw H2.out.size))⟩
end Bead
end Go.Proofs.Ythpgkmkdknmibaa
