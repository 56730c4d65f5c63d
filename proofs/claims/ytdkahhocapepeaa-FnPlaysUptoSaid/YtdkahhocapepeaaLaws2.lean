/- FnPlays returns true. -/
import Derived.Test.YtdkahhocapepeaaLaws1
set_option linter.all false
namespace Go.Proofs.Ytdkahhocapepeaa
open Go.RowKit
namespace Bead
set_option maxRecDepth 100000

set_option maxHeartbeats 1000000 in
theorem plays_c {w : World} {v : Value} {cs : List Cl} (hs : Sl w v cs.length (cs.flatMap Cl.cells)) (hv : ∀ c ∈ cs, c.v.ok) (hlen : cs.length ≤ 1099511627776) :
    Calls Try.prog 3 #[v] w fun r w' => r = .returned (.bool true) ∧ Below w.heap.size w w' := by
  have DF := Lib.hid (defined_c hs hlen)
  have HS := Lib.hid hs; have HV := Lib.hid hv
  clear hs hv
  go_enter Try.func3, Try.ntmps3
  go_wp2_with fail
  refine DF.out.mono ?_
  rintro r w1 ⟨hb1, hcase⟩
  have B1 := Lib.hid hb1
  rcases hcase with ⟨hok, a, o, rfl, ra, ro⟩ | ⟨hok, rfl⟩
  · have PL := Lib.hid (play_any (HS.out.later hb1) HV.out hok (by decide) hlen)
    obtain ⟨a1, a2, rfl⟩ := own_len ra
    obtain ⟨o1, o2, rfl⟩ := own_len ro
    have RA := Lib.hid ra
    rw [flat_bools] at ro
    have RO := Lib.hid ro
    have LA := Lib.hid (ansFrom_length cs Md.init)
    have LO := Lib.hid (openFrom_length cs Md.init)
    clear hb1 hok ra ro DF
    generalize ansFrom Md.init cs = A at *
    generalize openFrom Md.init cs = O at *
    go_wp2_with fail
    refine PL.out.mono ?_
    rintro r w2 ⟨out, rfl, rp, hb2⟩
    have B2 := Lib.hid (B1.out.trans (hb2.mono B1.out.size))
    have RA2 := Lib.hid (own_below RA.out hb2)
    have RO2 := Lib.hid (own_below RO.out hb2)
    obtain ⟨p1, p2, rfl⟩ := own_len rp
    have RP := Lib.hid rp
    clear hb2 rp PL
    go_wp2_with fail
    go_loopg [25] cs.length (fun n k wr => ∃ j, j + n = cs.length ∧ k = .int .i64 j ∧ ∃ d, wr = w2.drewN d)
    case atStart => exact ⟨0, by omega, rfl, 0, rfl⟩
    case round =>
      obtain ⟨j, hj, rfl, d, rfl⟩ := hrel
      by_cases hk0 : gk = 0
      · subst hk0
        obtain rfl : j = cs.length := by omega
        clear hj
        go_wp2
        go_ret
        exact ⟨rfl, Below.drewN' B2.out d⟩
      · have hjl : j < cs.length := by omega
        have hjA : j < A.length := by rw [LA.out]; exact hjl
        have hjO : j < O.length := by rw [LO.out]; exact hjl
        obtain ⟨x, hget⟩ : ∃ x, A[j]? = some x := ⟨_, List.getElem?_eq_getElem hjA⟩
        obtain ⟨y, hgeto⟩ : ∃ y, O[j]? = some y := ⟨_, List.getElem?_eq_getElem hjO⟩
        obtain ⟨b1, c1, hv1⟩ := own_form RA2.out (by omega)
        obtain ⟨b2, c2, hv2⟩ := own_form RP.out (by omega)
        obtain ⟨b3, c3, hv3⟩ := own_form RO2.out (by omega)
        simp only [Value.slice.injEq] at hv1 hv2 hv3
        obtain ⟨rfl, hz1, rfl⟩ := hv1
        obtain ⟨rfl, hz2, rfl⟩ := hv2
        obtain ⟨rfl, hz3, rfl⟩ := hv3
        clear hz1 hz2 hz3
        have e1 := fun t y => own_elem (t := t) (y := y) An.cells_length RA2.out LA.out hget
        have e2 := fun t y => own_elem (t := t) (y := y) An.cells_length RP.out LA.out hget
        have e3 := own_elem (f := fun b => [Value.bool b]) (t := 0) (y := .bool y) (fun _ => rfl) RO2.out LO.out hgeto rfl
        have s0 := e1 0 _ rfl; have s1 := e1 1 _ rfl; have s2 := e1 2 _ rfl; have s3 := e1 3 _ rfl; have s4 := e1 4 _ rfl
        have t0 := e2 0 _ rfl; have t1 := e2 1 _ rfl; have t2 := e2 2 _ rfl; have t3 := e2 3 _ rfl; have t4 := e2 4 _ rfl
        simp only [Nat.add_zero, Nat.mul_one] at s0 t0 e3
        have HJ := Lib.hid hj
        clear hj hget hgeto hjA hjO e1 e2
        cases y
        all_goals
          go_wp2_with fail
          go_quiet (fail)
          go_wp2
          go_roundg (gk - 1)
          case measure => omega
          case rel => exact ⟨j + 1, by have := HJ.out; omega, by go_num, _, rfl⟩
  · clear DF hb1 hok
    go_wp2
    go_ret
    exact ⟨rfl, B1.out⟩
end Bead
end Go.Proofs.Ytdkahhocapepeaa
