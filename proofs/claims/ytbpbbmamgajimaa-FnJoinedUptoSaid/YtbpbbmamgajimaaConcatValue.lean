/- slices.Grow of the nil slice and slices.Concat of two slices (printed by gen_concat.py). -/
import Derived.Test.YtbpbbmamgajimaaSight
import Derived.Lib.AppendZeros
set_option linter.all false
namespace Go.Proofs.Ytbpbbmamgajimaa
open Go.RowKit
namespace Bead
set_option maxRecDepth 100000

set_option maxHeartbeats 1000000 in
theorem growValue_c {w : World} (n : Nat) (hn : n ≤ 1099511627776) : Calls Try.prog 53 #[.slice none 0 0, .int .i64 n] w fun r w' => ∃ v', r = .returned v' ∧ w'.ownsRow w.heap.size 27 3 v' 0 [] ∧ Below w.heap.size w w' := by
  by_cases h0 : n = 0
  · subst h0
    go_enter Try.func53, Try.ntmps53
    go_wp2
    go_ret
    exact ⟨_, rfl, World.ownsRow_nil _ _ _ _, Below.refl _ _⟩
  · obtain ⟨i, hi, hzz, hz1, hz2⟩ := info_parts Try.infoIValue
    obtain ⟨z, hz0, hzs⟩ : ∃ z, i.zero = some z ∧ z.cells.size = 3 := ⟨_, hzz, rfl⟩
    obtain ⟨G, C, hr, hC, hge, hle⟩ : ∃ (G : Nat) (C : Array Value), (∀ ty, (Builtin.append_ #[57, 3] ty #[.slice none 0 0, .int .i64 n]).run Try.prog w = .ok (.slice (some ⟨w.heap.size, 0, none⟩) n G) (w.drew.alloc (.cells C 27))) ∧ C.size = G * 3 ∧ n ≤ G ∧ G ≤ maxLen :=
      ⟨grownCap w n 0 27, _, fun ty => Lib.run_append_nil_zeros (P := Try.prog) w 57 3 ty 27 i z .i64 .i64 Try.underlying57 Try.underlying3 hi hz0 n (by omega) (by omega) (by omega) (by rw [hz2]; omega), by
        simp only [Array.size_append, size_zeroCells, hzs, ← Nat.add_mul]
        rw [Nat.add_sub_cancel' (grownCap_ge w n 0 27)], grownCap_ge w n 0 27, grownCap_le_maxLen w n 0 27 (by unfold maxLen; omega)⟩
    have hpos : (0 : Int) < (n : Int) := by omega
    have HR := Lib.hid hr
    have OWN : Hid ((w.drew.alloc (.cells C 27)).ownsRow w.heap.size 27 3 (.slice (some ⟨w.heap.size, 0, none⟩) 0 G) 0 []) :=
      ⟨rfl, .inr ⟨w.heap.size, G, C, rfl, Nat.le_refl _, heap_alloc_new w.drew _, Nat.zero_le _, hle, hC, by simp⟩⟩
    have hG : G ≤ 9223372036854775807 := by unfold maxLen at hle; exact hle
    clear hr hz0 hzz hz1 hz2 hi hzs hC hle
    go_enter Try.func53, Try.ntmps53
    go_wp2_with (at_builtin; refine Lib.wpList_append_run _ rfl _ _ _ _ rfl _ _ rfl rfl _ _ (HR.out _) ?_)
    go_ret
    exact ⟨_, rfl, OWN.out, (Below.refl _ _).drew.alloc (Nat.le_refl _) _⟩

set_option maxHeartbeats 1000000 in
theorem concatValue_c {w : World} {g : Nat} {v1 v2 : Value} {n1 n2 : Nat} {X1 X2 : List Value} (h1 : w.cell? ⟨g, 0, none⟩ = some v1) (h2 : w.cell? ⟨g, 1, none⟩ = some v2) (s1 : Sl w v1 n1 X1) (s2 : Sl w v2 n2 X2) (l1 : X1.length = n1 * 3) (l2 : X2.length = n2 * 3)
    (o1 : ∀ u ∈ X1, u.oneCell' = true) (o2 : ∀ u ∈ X2, u.oneCell' = true) (f1 : Value.fair v1) (f2 : Value.fair v2) (hn : n1 + n2 ≤ 1099511627776) :
    Calls Try.prog 43 #[.slice (some ⟨g, 0, none⟩) 2 2] w fun r w' => ∃ v', r = .returned v' ∧ w'.ownsRow w.heap.size 27 3 v' (n1 + n2) (X1 ++ X2) ∧ Below w.heap.size w w' := by
  have S1 := Lib.hid s1; have S2 := Lib.hid s2; have L1 := Lib.hid l1; have L2 := Lib.hid l2; have O1 := Lib.hid o1; have O2 := Lib.hid o2
  have C1 := Lib.hid (fair_cap f1 (by obtain ⟨a, c, q, _⟩ := s1; exact ⟨a, c, q⟩))
  have C2 := Lib.hid (fair_cap f2 (by obtain ⟨a, c, q, _⟩ := s2; exact ⟨a, c, q⟩))
  have G1 := Lib.hid h1; have G2 := Lib.hid h2
  obtain ⟨a1, c1, rfl, _⟩ := s1
  obtain ⟨a2, c2, rfl, _⟩ := s2
  clear l1 l2 o1 o2 f1 f2
  go_enter Try.func43, Try.ntmps43
  go_wp2_with fail
  go_loopg [3, 11] 2 (fun n sz k wr => wr = w ∧ ((n = 2 ∧ sz = .int .i64 0 ∧ k = .int .i64 0) ∨ (n = 1 ∧ sz = .int .i64 n1 ∧ k = .int .i64 1) ∨ (n = 0 ∧ sz = .int .i64 (n1 + n2 : Nat) ∧ k = .int .i64 2)))
  case atStart => exact ⟨rfl, .inl ⟨rfl, rfl, rfl⟩⟩
  case round =>
    obtain ⟨rfl, ⟨rfl, rfl, rfl⟩ | ⟨rfl, rfl, rfl⟩ | ⟨rfl, rfl, rfl⟩⟩ := hrel
    · go_wp2
      go_roundg 1
      case measure => omega
      case rel => exact ⟨rfl, .inr (.inl ⟨rfl, by simp, rfl⟩)⟩
    · have hd : ¬ ((n1 : Int) + (n2 : Int) < 0) := by omega
      go_wp2
      go_roundg 0
      case measure => omega
      case rel => exact ⟨rfl, .inr (.inr ⟨rfl, by go_num, rfl⟩)⟩
    · clear h1 h2
      obtain ⟨wo, rfl⟩ : ∃ wo : World, wo = wr := ⟨_, rfl⟩
      go_wp2_with fail
      refine (growValue_c (n1 + n2) hn).mono ?_
      rintro r w1 ⟨v', rfl, r0, hb⟩
      have R0 := Lib.hid r0; have B0 := Lib.hid hb
      clear r0 hb
      go_wp2_with fail
      go_loopg [6, 27] 2 (fun n v k wr => Below wo.heap.size wo wr ∧ ((n = 2 ∧ k = .int .i64 0 ∧ wr.ownsRow wo.heap.size 27 3 v 0 []) ∨ (n = 1 ∧ k = .int .i64 1 ∧ wr.ownsRow wo.heap.size 27 3 v n1 X1) ∨ (n = 0 ∧ k = .int .i64 2 ∧ wr.ownsRow wo.heap.size 27 3 v (n1 + n2) (X1 ++ X2))))
      case atStart => exact ⟨B0.out, .inl ⟨rfl, rfl, R0.out⟩⟩
      case round =>
        clear R0 B0
        obtain ⟨hb, ⟨rfl, rfl, hr⟩ | ⟨rfl, rfl, hr⟩ | ⟨rfl, rfl, hr⟩⟩ := hrel
        · have g1 := (hb.cell (p := ⟨g, 0, none⟩) (World.block_lt_of_cell? wo _ G1.out)).trans G1.out
          have RR := Lib.hid hr; have BB := Lib.hid hb
          have sz := hb.size
          clear hr hb
          go_wp2_with (at_builtin; refine wpList_app2 rfl (.tmp 31) (.tmp 32) 57 rfl wo.heap.size 27 _ 3 32 Try.underlying57 Try.infoIValue rfl (by decide) _ 0 [] rfl RR.out (.slice a1 n1 c1) n1 X1 rfl (S1.out.later BB.out) L1.out O1.out C1.out (by omega) (by decide) sz ?_; intro v' w2 hown hg hn; rw [Nat.zero_add, List.nil_append] at hown; have RW := Lib.hid hown; have BL := Lib.hid (below_grown BB.out RR.out (Nat.le_refl _) hg); clear hown hg hn)
          go_roundg 1
          case measure => omega
          case rel => exact ⟨BL.out, .inr (.inl ⟨rfl, rfl, RW.out⟩)⟩
        · have g2 := (hb.cell (p := ⟨g, 1, none⟩) (World.block_lt_of_cell? wo _ G2.out)).trans G2.out
          have RR := Lib.hid hr; have BB := Lib.hid hb
          have sz := hb.size
          clear hr hb
          go_wp2_with (at_builtin; refine wpList_app2 rfl (.tmp 31) (.tmp 32) 57 rfl wo.heap.size 27 _ 3 32 Try.underlying57 Try.infoIValue rfl (by decide) _ n1 X1 rfl RR.out (.slice a2 n2 c2) n2 X2 rfl (S2.out.later BB.out) L2.out O2.out C2.out (by omega) (by decide) sz ?_; intro v' w2 hown hg hn; have RW := Lib.hid hown; have BL := Lib.hid (below_grown BB.out RR.out (Nat.le_refl _) hg); clear hown hg hn)
          go_roundg 0
          case measure => omega
          case rel => exact ⟨BL.out, .inr (.inr ⟨rfl, rfl, RW.out⟩)⟩
        · have RR := Lib.hid hr; have BB := Lib.hid hb
          clear hr hb
          go_wp2
          go_ret
          exact ⟨_, rfl, RR.out, BB.out⟩
end Bead
end Go.Proofs.Ytbpbbmamgajimaa
