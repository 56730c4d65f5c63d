/- impl.Play on every permitted script; FnPlays and FnPlaysAll return true. -/
import Derived.Test.YtdkahhocapepeaaDefined
import Derived.Laws.StructEq
set_option linter.all false
namespace Go.Proofs.Ytdkahhocapepeaa
open Go.RowKit
namespace Bead
set_option maxRecDepth 100000

set_option maxHeartbeats 1000000 in
theorem play_nil {w : World} {a : Option Addr} {n cap : Nat} (hn : n = 0) :
    Calls Try.prog 13 #[.slice a n cap] w fun r w' => r = .returned (.slice none 0 0) ∧ Below w.heap.size w w' := by
  have mk1 := run_make_row' (P := Try.prog) 62 78 (.pointer none) 8 Try.underlying62 Try.infopList rfl .i64 .i64 n (by omega) (by omega)
  have mk2 := run_make_row' (P := Try.prog) 63 80 (.pointer none) 8 Try.underlying63 Try.infopElem rfl .i64 .i64 n (by omega) (by omega)
  have hz : ¬ 0 < n := by omega
  clear hn
  go_enter Try.func13, Try.ntmps13
  go_wp2
  go_region
  all_goals
    go_wp2_with fail
    go_loopg [4, 17] 0 (fun _ out k wr => k = .int .i64 0 ∧ out = .slice none 0 0 ∧ Below w.heap.size w wr)
    case atStart => exact ⟨rfl, rfl, (below3 w _ _ _).drew⟩
    case round =>
      clear mk1 mk2
      obtain ⟨rfl, rfl, hb⟩ := hrel
      have HB := Lib.hid hb
      clear hb
      go_wp2
      go_ret
      exact ⟨rfl, HB.out⟩

theorem play_any {w : World} {v : Value} {cs : List Cl} {most : Nat} (hs : Sl w v cs.length (cs.flatMap Cl.cells)) (hv : ∀ c ∈ cs, c.v.ok) (hok : okFrom most Md.init cs = true) (hmost : most < 2305843009213693952) (hlen : cs.length ≤ 1099511627776) :
    Calls Try.prog 13 #[v] w fun r w' => ∃ out, r = .returned out ∧ w'.ownsRow w.heap.size 31 5 out cs.length ((ansFrom Md.init cs).flatMap An.cells) ∧ Below w.heap.size w w' := by
  by_cases hne : cs = []
  · subst hne
    obtain ⟨a, cap, rfl, _⟩ := hs
    refine (play_nil rfl).mono ?_
    rintro r w' ⟨rfl, hb⟩
    exact ⟨_, rfl, World.ownsRow_nil _ _ _ _, hb⟩
  · exact play_c hs hne hv hok hmost hlen

/-- The cells of one element of a row. -/
theorem own_elem {α : Type} {w : World} {B : Nat} {e : TypeId} {sz b n cap : Nat} {l : List α} {f : α → List Value} (hf : ∀ x, (f x).length = sz) (h : w.ownsRow B e sz (.slice (some ⟨b, 0, none⟩) n cap) n (l.flatMap f)) (hn : l.length = n) {j t : Nat} {x : α} {y : Value} (hx : l[j]? = some x) (hy : (f x)[t]? = some y) : w.cell? ⟨b, j * sz + t, none⟩ = some y := by
  have ht : t < sz := by rw [← hf x]; exact (List.getElem?_eq_some_iff.1 hy).1
  have hj := (List.getElem?_eq_some_iff.1 hx).1
  have hlt : j * sz + t < n * sz := by
    have h1 : (j + 1) * sz ≤ n * sz := Nat.mul_le_mul_right sz (by omega)
    rw [Nat.succ_mul] at h1
    omega
  rw [h.cellAt _ hlt, flat_get f sz hf l j t x hx ht, hy]

theorem flat_bools (l : List Bool) : bools l = l.flatMap fun b => [Value.bool b] := by
  induction l with
  | nil => rfl
  | cons b l ih => simp [bools] at ih ⊢; exact ih

set_option maxHeartbeats 1000000 in
theorem playsAll_c {w : World} {v : Value} {cs : List Cl} (hs : Sl w v cs.length (cs.flatMap Cl.cells)) (hv : ∀ c ∈ cs, c.v.ok) (hlen : cs.length ≤ 1099511627776) :
    Calls Try.prog 4 #[v] w fun r w' => r = .returned (.bool true) ∧ Below w.heap.size w w' := by
  have DF := Lib.hid (defined_c hs hlen)
  have HS := Lib.hid hs; have HV := Lib.hid hv
  clear hs hv
  go_enter Try.func4, Try.ntmps4
  go_wp2_with fail
  refine DF.out.mono ?_
  rintro r w1 ⟨hb1, hcase⟩
  have B1 := Lib.hid hb1
  rcases hcase with ⟨hok, a, o, rfl, ra, ro⟩ | ⟨hok, rfl⟩
  · have PL := Lib.hid (play_any (HS.out.later hb1) HV.out hok (by decide) hlen)
    obtain ⟨a1, a2, rfl⟩ := own_len ra
    obtain ⟨o1, o2, rfl⟩ := own_len ro
    have RA := Lib.hid ra
    have LA := Lib.hid (ansFrom_length cs Md.init)
    clear hb1 hok ra ro DF
    generalize ansFrom Md.init cs = A at *
    go_wp2_with fail
    refine PL.out.mono ?_
    rintro r w2 ⟨out, rfl, rp, hb2⟩
    have B2 := Lib.hid (B1.out.trans (hb2.mono B1.out.size))
    have RA2 := Lib.hid (own_below RA.out hb2)
    obtain ⟨p1, p2, rfl⟩ := own_len rp
    have RP := Lib.hid rp
    clear hb2 rp PL
    go_wp2_with fail
    go_loopg [25] cs.length (fun n k wr => ∃ j, j + n = cs.length ∧ k = .int .i64 j ∧ ∃ d, wr = w2.drewN d)
    case atStart => exact ⟨0, by omega, rfl, 0, rfl⟩
    case round =>
      obtain ⟨j, hj, rfl, d, rfl⟩ := hrel
      by_cases hk0 : gk = 0
      · subst hk0
        obtain rfl : j = cs.length := by omega
        clear hj
        go_wp2
        go_ret
        exact ⟨rfl, Below.drewN' B2.out d⟩
      · have hjl : j < cs.length := by omega
        have hjA : j < A.length := by rw [LA.out]; exact hjl
        obtain ⟨x, hget⟩ : ∃ x, A[j]? = some x := ⟨_, List.getElem?_eq_getElem hjA⟩
        obtain ⟨b1, c1, hv1⟩ := own_form RA2.out (by omega)
        obtain ⟨b2, c2, hv2⟩ := own_form RP.out (by omega)
        simp only [Value.slice.injEq] at hv1 hv2
        obtain ⟨rfl, hz1, rfl⟩ := hv1
        obtain ⟨rfl, hz2, rfl⟩ := hv2
        clear hz1 hz2
        have e1 := fun t y => own_elem (t := t) (y := y) An.cells_length RA2.out LA.out hget
        have e2 := fun t y => own_elem (t := t) (y := y) An.cells_length RP.out LA.out hget
        have s0 := e1 0 _ rfl; have s1 := e1 1 _ rfl; have s2 := e1 2 _ rfl; have s3 := e1 3 _ rfl; have s4 := e1 4 _ rfl
        have t0 := e2 0 _ rfl; have t1 := e2 1 _ rfl; have t2 := e2 2 _ rfl; have t3 := e2 3 _ rfl; have t4 := e2 4 _ rfl
        simp only [Nat.add_zero] at s0 t0
        have HJ := Lib.hid hj
        clear hj hget hjA e1 e2
        go_wp2_with fail
        go_quiet (fail)
        go_wp2
        go_roundg (gk - 1)
        case measure => omega
        case rel => exact ⟨j + 1, by have := HJ.out; omega, by go_num, _, rfl⟩
  · clear DF hb1 hok
    go_wp2
    go_ret
    exact ⟨rfl, B1.out⟩
end Bead
end Go.Proofs.Ytdkahhocapepeaa
