/- impl.Play on every permitted script, the empty one too. -/
import Derived.Test.YtidnmanljdadaaaDefined
import Derived.Laws.StructEq
import Derived.WalkSpells
import Derived.Lib.AppendZeros
set_option linter.all false
namespace Go.Proofs.Ytidnmanljdadaaa
open Go.RowKit
namespace Bead
set_option maxRecDepth 100000

set_option maxHeartbeats 1000000 in
theorem play_nil {w : World} {a : Option Addr} {n cap : Nat} (hn : n = 0) :
    Calls Try.prog 11 #[.slice a n cap] w fun r w' => r = .returned (.slice none 0 0) ∧ Below w.heap.size w w' := by
  have mk1 := run_make_row' (P := Try.prog) 87 107 (.pointer none) 8 Try.underlying87 Try.infopList rfl .i64 .i64 n (by omega) (by omega)
  have mk2 := run_make_row' (P := Try.prog) 88 109 (.pointer none) 8 Try.underlying88 Try.infopElem rfl .i64 .i64 n (by omega) (by omega)
  have hz : ¬ 0 < n := by omega
  clear hn
  go_enter Try.func11, Try.ntmps11
  go_wp2
  go_region
  all_goals
    go_wp2_with fail
    go_loopg [4, 17] 0 (fun _ out k wr => k = .int .i64 0 ∧ out = .slice none 0 0 ∧ Below w.heap.size w wr)
    case atStart => exact ⟨rfl, rfl, (below3 w _ _ _).drew⟩
    case round =>
      clear mk1 mk2
      obtain ⟨rfl, rfl, hb⟩ := hrel
      have HB := Lib.hid hb
      clear hb
      go_wp2
      go_ret
      exact ⟨rfl, HB.out⟩

theorem play_any {w : World} {v : Value} {cs : List Cl} {most : Nat} (hs : Sl w v cs.length (cs.flatMap Cl.cells)) (hv : ∀ c ∈ cs, c.v.ok) (hok : okFrom most Md.init cs = true) (hmost : most < 2305843009213693952) (hlen : cs.length ≤ 1099511627776) :
    Calls Try.prog 11 #[v] w fun r w' => ∃ out, r = .returned out ∧ w'.ownsRow w.heap.size 41 5 out cs.length ((ansFrom Md.init cs).flatMap An.cells) ∧ Below w.heap.size w w' := by
  by_cases hne : cs = []
  · subst hne
    obtain ⟨a, cap, rfl, _⟩ := hs
    refine (play_nil rfl).mono ?_
    rintro r w' ⟨rfl, hb⟩
    exact ⟨_, rfl, World.ownsRow_nil _ _ _ _, hb⟩
  · exact play_c hs hne hv hok hmost hlen

/-- The cells of one element of a row. -/
theorem own_elem {α : Type} {w : World} {B : Nat} {e : TypeId} {sz b n cap : Nat} {l : List α} {f : α → List Value} (hf : ∀ x, (f x).length = sz) (h : w.ownsRow B e sz (.slice (some ⟨b, 0, none⟩) n cap) n (l.flatMap f)) (hn : l.length = n) {j t : Nat} {x : α} {y : Value} (hx : l[j]? = some x) (hy : (f x)[t]? = some y) : w.cell? ⟨b, j * sz + t, none⟩ = some y := by
  have ht : t < sz := by rw [← hf x]; exact (List.getElem?_eq_some_iff.1 hy).1
  have hj := (List.getElem?_eq_some_iff.1 hx).1
  have hlt : j * sz + t < n * sz := by
    have h1 : (j + 1) * sz ≤ n * sz := Nat.mul_le_mul_right sz (by omega)
    rw [Nat.succ_mul] at h1
    omega
  rw [h.cellAt _ hlt, flat_get f sz hf l j t x hx ht, hy]

theorem flat_bools (l : List Bool) : bools l = l.flatMap fun b => [Value.bool b] := by
  induction l with
  | nil => rfl
  | cons b l ih => simp [bools] at ih ⊢; exact ih
end Bead
end Go.Proofs.Ytidnmanljdadaaa

/- slices.Clone of scripts. -/
namespace Go.Proofs.Ytidnmanljdadaaa
open Go.RowKit
namespace Bead
set_option maxRecDepth 100000

theorem Try.infoICall : (Try.prog.info? 32).map (fun i => (i.zero, i.size, i.bytes)) = some (some (.agg #[.int .i64 0, .int .i64 0, .int .i64 0, .int .i64 0, .int .i64 0, .int .i64 0, .int .i64 0, .string ⟨#[]⟩]), 8, 72) := by kernel_rfl

theorem cells_one (cs : List Cl) : ∀ u ∈ cs.flatMap Cl.cells, u.oneCell' = true := by
  intro u hu
  simp only [List.mem_flatMap, Cl.cells, List.mem_cons, List.not_mem_nil, or_false] at hu
  obtain ⟨c, _, h⟩ := hu
  rcases h with rfl | rfl | rfl | rfl | rfl | rfl | rfl | rfl <;> rfl

theorem eql_nil_calls (W : World) (a : Option Addr) (n c : Nat) : (binOp .eql 22 (.slice a n c) (.slice none 0 0)).run Try.prog W = .ok (.bool a.isNone) W := by
  simp only [binOp]
  simp [Op.equal, Op.maxDepth, Lib.run_equalIn_slice_nil W 9999 22 32 a n c 0 0 Try.underlying22]

set_option maxHeartbeats 1000000 in
theorem clone_c {w : World} {v : Value} {cs : List Cl} (hs : Sl w v cs.length (cs.flatMap Cl.cells)) (hf : Value.fair v) (hlen : cs.length ≤ 1099511627776) :
    Calls Try.prog 14 #[v] w fun r w' => ∃ v', r = .returned v' ∧ w'.ownsRow w.heap.size 32 8 v' cs.length (cs.flatMap Cl.cells) ∧ Below w.heap.size w w' := by
  have HS := Lib.hid hs
  obtain ⟨a, cap, rfl, hc⟩ := hs
  cases a with
  | none =>
    have hcs : cs = [] := by
      rcases cs with _ | ⟨c, r⟩
      · rfl
      · obtain ⟨b, off, q, _⟩ := hc (flat_ne _ 8 Cl.cells_length (by decide) (by simp))
        simp at q
    have FIN : Hid (w.ownsRow w.heap.size 32 8 (.slice none 0 0) cs.length (cs.flatMap Cl.cells)) := by rw [hcs]; exact World.ownsRow_nil _ _ _ _
    have hcap := hf _ _ rfl
    subst hcap
    have hl0 : cs.length = 0 := by rw [hcs]; rfl
    rw [hl0]
    rw [hl0] at FIN
    clear hc hf HS hcs hl0
    have q1 := fun W => eql_nil_calls W none 0 0
    simp only [Option.isNone_none] at q1
    go_enter Try.func14, Try.ntmps14
    go_wp2
    go_ret
    exact ⟨_, rfl, FIN.out, Below.refl _ _⟩
  | some ad =>
    have HS2 : Hid (∀ o, Sl (w.alloc o) (.slice (some ad) cs.length cap) cs.length (cs.flatMap Cl.cells)) := fun o => HS.out.later (below1 w o)
    have O0 : Hid ((w.alloc (.cells #[] 32)).ownsRow w.heap.size 32 8 (.slice (some ⟨w.heap.size, 0, none⟩) 0 0) 0 []) := by
      have := World.ownsRow_lit (base := w.heap.size) (e := 32) (size := 8) w #[] 0 (Nat.le_refl _) (by unfold maxLen; omega) rfl
      exact this
    clear hc hf HS
    have q1 := fun W => eql_nil_calls W (some ad) cs.length cap
    simp only [Option.isNone_some] at q1
    go_enter Try.func14, Try.ntmps14
    go_wp2_with (at_builtin; refine wpList_app2 rfl (.tmp 5) (.tmp 6) 22 rfl w.heap.size 32 _ 8 72 Try.underlying22 Try.infoICall rfl (by decide) _ 0 [] rfl O0.out (.slice (some ad) cs.length cap) cs.length _ rfl (HS2.out _) (flat_length _ 8 Cl.cells_length _) (cells_one cs) (.inr (.inl (by simp [Value.ownBlock]))) (by omega) (by decide) (by simp) ?_; intro v' w2 hown hg hn; rw [Nat.zero_add, List.nil_append] at hown; have RW := Lib.hid hown; have BL := Lib.hid (below_grown (below1 w _) O0.out (Nat.le_refl _) hg); clear hown hg hn)
    go_ret
    exact ⟨_, rfl, RW.out, BL.out⟩
end Bead
end Go.Proofs.Ytidnmanljdadaaa

/- slices.Grow of the nil slice and slices.Concat of two slices (printed by gen_concat.py). -/
namespace Go.Proofs.Ytidnmanljdadaaa
open Go.RowKit
namespace Bead
set_option maxRecDepth 100000

set_option maxHeartbeats 1000000 in
theorem growCall_c {w : World} (n : Nat) (hn : n ≤ 1099511627776) : Calls Try.prog 88 #[.slice none 0 0, .int .i64 n] w fun r w' => ∃ v', r = .returned v' ∧ w'.ownsRow w.heap.size 32 8 v' 0 [] ∧ Below w.heap.size w w' := by
  by_cases h0 : n = 0
  · subst h0
    go_enter Try.func88, Try.ntmps88
    go_wp2
    go_ret
    exact ⟨_, rfl, World.ownsRow_nil _ _ _ _, Below.refl _ _⟩
  · obtain ⟨i, hi, hzz, hz1, hz2⟩ := info_parts Try.infoICall
    obtain ⟨z, hz0, hzs⟩ : ∃ z, i.zero = some z ∧ z.cells.size = 8 := ⟨_, hzz, rfl⟩
    obtain ⟨G, C, hr, hC, hge, hle⟩ : ∃ (G : Nat) (C : Array Value), (∀ ty, (Builtin.append_ #[22, 3] ty #[.slice none 0 0, .int .i64 n]).run Try.prog w = .ok (.slice (some ⟨w.heap.size, 0, none⟩) n G) (w.drew.alloc (.cells C 32))) ∧ C.size = G * 8 ∧ n ≤ G ∧ G ≤ maxLen :=
      ⟨grownCap w n 0 32, _, fun ty => Lib.run_append_nil_zeros (P := Try.prog) w 22 3 ty 32 i z .i64 .i64 Try.underlying22 Try.underlying3 hi hz0 n (by omega) (by omega) (by omega) (by rw [hz2]; omega), by
        simp only [Array.size_append, size_zeroCells, hzs, ← Nat.add_mul]
        rw [Nat.add_sub_cancel' (grownCap_ge w n 0 32)], grownCap_ge w n 0 32, grownCap_le_maxLen w n 0 32 (by unfold maxLen; omega)⟩
    have hpos : (0 : Int) < (n : Int) := by omega
    have HR := Lib.hid hr
    have OWN : Hid ((w.drew.alloc (.cells C 32)).ownsRow w.heap.size 32 8 (.slice (some ⟨w.heap.size, 0, none⟩) 0 G) 0 []) :=
      ⟨rfl, .inr ⟨w.heap.size, G, C, rfl, Nat.le_refl _, heap_alloc_new w.drew _, Nat.zero_le _, hle, hC, by simp⟩⟩
    have hG : G ≤ 9223372036854775807 := by unfold maxLen at hle; exact hle
    clear hr hz0 hzz hz1 hz2 hi hzs hC hle
    go_enter Try.func88, Try.ntmps88
    go_wp2_with (at_builtin; refine Lib.wpList_append_run _ rfl _ _ _ _ rfl _ _ rfl rfl _ _ (HR.out _) ?_)
    go_ret
    exact ⟨_, rfl, OWN.out, (Below.refl _ _).drew.alloc (Nat.le_refl _) _⟩

set_option maxHeartbeats 1000000 in
theorem concatCall_c {w : World} {g : Nat} {v1 v2 : Value} {n1 n2 : Nat} {X1 X2 : List Value} (h1 : w.cell? ⟨g, 0, none⟩ = some v1) (h2 : w.cell? ⟨g, 1, none⟩ = some v2) (s1 : Sl w v1 n1 X1) (s2 : Sl w v2 n2 X2) (l1 : X1.length = n1 * 8) (l2 : X2.length = n2 * 8)
    (o1 : ∀ u ∈ X1, u.oneCell' = true) (o2 : ∀ u ∈ X2, u.oneCell' = true) (f1 : Value.fair v1) (f2 : Value.fair v2) (hn : n1 + n2 ≤ 1099511627776) :
    Calls Try.prog 44 #[.slice (some ⟨g, 0, none⟩) 2 2] w fun r w' => ∃ v', r = .returned v' ∧ w'.ownsRow w.heap.size 32 8 v' (n1 + n2) (X1 ++ X2) ∧ Below w.heap.size w w' := by
  have S1 := Lib.hid s1; have S2 := Lib.hid s2; have L1 := Lib.hid l1; have L2 := Lib.hid l2; have O1 := Lib.hid o1; have O2 := Lib.hid o2
  have C1 := Lib.hid (fair_cap f1 (by obtain ⟨a, c, q, _⟩ := s1; exact ⟨a, c, q⟩))
  have C2 := Lib.hid (fair_cap f2 (by obtain ⟨a, c, q, _⟩ := s2; exact ⟨a, c, q⟩))
  have G1 := Lib.hid h1; have G2 := Lib.hid h2
  obtain ⟨a1, c1, rfl, _⟩ := s1
  obtain ⟨a2, c2, rfl, _⟩ := s2
  clear l1 l2 o1 o2 f1 f2
  go_enter Try.func44, Try.ntmps44
  go_wp2_with fail
  go_loopg [3, 11] 2 (fun n sz k wr => wr = w ∧ ((n = 2 ∧ sz = .int .i64 0 ∧ k = .int .i64 0) ∨ (n = 1 ∧ sz = .int .i64 n1 ∧ k = .int .i64 1) ∨ (n = 0 ∧ sz = .int .i64 (n1 + n2 : Nat) ∧ k = .int .i64 2)))
  case atStart => exact ⟨rfl, .inl ⟨rfl, rfl, rfl⟩⟩
  case round =>
    obtain ⟨rfl, ⟨rfl, rfl, rfl⟩ | ⟨rfl, rfl, rfl⟩ | ⟨rfl, rfl, rfl⟩⟩ := hrel
    · go_wp2
      go_roundg 1
      case measure => omega
      case rel => exact ⟨rfl, .inr (.inl ⟨rfl, by simp, rfl⟩)⟩
    · have hd : ¬ ((n1 : Int) + (n2 : Int) < 0) := by omega
      go_wp2
      go_roundg 0
      case measure => omega
      case rel => exact ⟨rfl, .inr (.inr ⟨rfl, by go_num, rfl⟩)⟩
    · clear h1 h2
      obtain ⟨wo, rfl⟩ : ∃ wo : World, wo = wr := ⟨_, rfl⟩
      go_wp2_with fail
      refine (growCall_c (n1 + n2) hn).mono ?_
      rintro r w1 ⟨v', rfl, r0, hb⟩
      have R0 := Lib.hid r0; have B0 := Lib.hid hb
      clear r0 hb
      go_wp2_with fail
      go_loopg [6, 27] 2 (fun n v k wr => Below wo.heap.size wo wr ∧ ((n = 2 ∧ k = .int .i64 0 ∧ wr.ownsRow wo.heap.size 32 8 v 0 []) ∨ (n = 1 ∧ k = .int .i64 1 ∧ wr.ownsRow wo.heap.size 32 8 v n1 X1) ∨ (n = 0 ∧ k = .int .i64 2 ∧ wr.ownsRow wo.heap.size 32 8 v (n1 + n2) (X1 ++ X2))))
      case atStart => exact ⟨B0.out, .inl ⟨rfl, rfl, R0.out⟩⟩
      case round =>
        clear R0 B0
        obtain ⟨hb, ⟨rfl, rfl, hr⟩ | ⟨rfl, rfl, hr⟩ | ⟨rfl, rfl, hr⟩⟩ := hrel
        · have g1 := (hb.cell (p := ⟨g, 0, none⟩) (World.block_lt_of_cell? wo _ G1.out)).trans G1.out
          have RR := Lib.hid hr; have BB := Lib.hid hb
          have sz := hb.size
          clear hr hb
          go_wp2_with (at_builtin; refine wpList_app2 rfl (.tmp 31) (.tmp 32) 22 rfl wo.heap.size 32 _ 8 72 Try.underlying22 Try.infoICall rfl (by decide) _ 0 [] rfl RR.out (.slice a1 n1 c1) n1 X1 rfl (S1.out.later BB.out) L1.out O1.out C1.out (by omega) (by decide) sz ?_; intro v' w2 hown hg hn; rw [Nat.zero_add, List.nil_append] at hown; have RW := Lib.hid hown; have BL := Lib.hid (below_grown BB.out RR.out (Nat.le_refl _) hg); clear hown hg hn)
          go_roundg 1
          case measure => omega
          case rel => exact ⟨BL.out, .inr (.inl ⟨rfl, rfl, RW.out⟩)⟩
        · have g2 := (hb.cell (p := ⟨g, 1, none⟩) (World.block_lt_of_cell? wo _ G2.out)).trans G2.out
          have RR := Lib.hid hr; have BB := Lib.hid hb
          have sz := hb.size
          clear hr hb
          go_wp2_with (at_builtin; refine wpList_app2 rfl (.tmp 31) (.tmp 32) 22 rfl wo.heap.size 32 _ 8 72 Try.underlying22 Try.infoICall rfl (by decide) _ n1 X1 rfl RR.out (.slice a2 n2 c2) n2 X2 rfl (S2.out.later BB.out) L2.out O2.out C2.out (by omega) (by decide) sz ?_; intro v' w2 hown hg hn; have RW := Lib.hid hown; have BL := Lib.hid (below_grown BB.out RR.out (Nat.le_refl _) hg); clear hown hg hn)
          go_roundg 0
          case measure => omega
          case rel => exact ⟨BL.out, .inr (.inr ⟨rfl, rfl, RW.out⟩)⟩
        · have RR := Lib.hid hr; have BB := Lib.hid hb
          clear hr hb
          go_wp2
          go_ret
          exact ⟨_, rfl, RR.out, BB.out⟩
end Bead
end Go.Proofs.Ytidnmanljdadaaa

/- laws.then, laws.permitted. -/
namespace Go.Proofs.Ytidnmanljdadaaa
open Go.RowKit
namespace Bead
set_option maxRecDepth 100000

theorem cells_app (a b : List Cl) : (a ++ b).flatMap Cl.cells = a.flatMap Cl.cells ++ b.flatMap Cl.cells := List.flatMap_append
theorem own_fair {w : World} {B : Nat} {e : TypeId} {sz n : Nat} {v : Value} {xs : List Value} (h : w.ownsRow B e sz v n xs) : Value.fair v := by
  rcases h.2 with ⟨rfl, _⟩ | ⟨g, cap, cur, rfl, _⟩
  · intro n c q; simp at q; exact q.2.symm
  · intro n c q; simp at q

set_option maxHeartbeats 1000000 in
theorem then_c {w : World} {v1 v2 : Value} {a b : List Cl} (s1 : Sl w v1 a.length (a.flatMap Cl.cells)) (s2 : Sl w v2 b.length (b.flatMap Cl.cells)) (f1 : Value.fair v1) (f2 : Value.fair v2) (hn : a.length + b.length ≤ 1099511627776) :
    Calls Try.prog 22 #[v1, v2] w fun r w' => ∃ v', r = .returned v' ∧ w'.ownsRow w.heap.size 32 8 v' (a ++ b).length ((a ++ b).flatMap Cl.cells) ∧ Below w.heap.size w w' := by
  have CC : Hid (∀ t, Calls Try.prog 44 #[.slice (some ⟨w.heap.size, 0, none⟩) 2 2] (w.alloc (.cells #[v1, v2] t)) fun r w' => ∃ v', r = .returned v' ∧ w'.ownsRow (w.alloc (.cells #[v1, v2] t)).heap.size 32 8 v' (a.length + b.length) (a.flatMap Cl.cells ++ b.flatMap Cl.cells) ∧ Below (w.alloc (.cells #[v1, v2] t)).heap.size (w.alloc (.cells #[v1, v2] t)) w') := fun t =>
    concatCall_c (cell_of_heap (heap_alloc_new w _) rfl) (cell_of_heap (heap_alloc_new w _) rfl) (s1.later (below1 w _)) (s2.later (below1 w _)) (flat_length _ 8 Cl.cells_length _) (flat_length _ 8 Cl.cells_length _) (cells_one _) (cells_one _) f1 f2 hn
  obtain ⟨a1, c1, rfl, _⟩ := s1
  obtain ⟨a2, c2, rfl, _⟩ := s2
  rw [List.length_append, cells_app]
  clear f1 f2
  go_enter Try.func22, Try.ntmps22
  go_wp2_with fail
  refine (CC.out _).mono ?_
  rintro r w1 ⟨v', rfl, r1, hb⟩
  have R := Lib.hid (own_base (B' := w.heap.size) r1 (by simp)); have B := Lib.hid ((below1 w _).trans (hb.mono (by simp)))
  clear r1 hb CC
  go_wp2
  go_ret
  exact ⟨_, rfl, R.out, B.out⟩

theorem permittedL_c {w : World} {v : Value} {cs : List Cl} (hs : Sl w v cs.length (cs.flatMap Cl.cells)) (hlen : cs.length ≤ 1099511627776) :
    Calls Try.prog 15 #[v] w fun r w' => r = .returned (.bool (okFrom 500 Md.init cs)) ∧ Below w.heap.size w w' := by
  have DF := Lib.hid (defined_c hs hlen)
  clear hs
  go_enter Try.func15, Try.ntmps15
  go_wp2_with fail
  refine DF.out.mono ?_
  rintro r w1 ⟨hb1, hcase⟩
  have B1 := Lib.hid hb1
  rcases hcase with ⟨hok, a, o, rfl, ra, ro⟩ | ⟨hok, rfl⟩
  · obtain ⟨a1, a2, rfl⟩ := own_len ra
    obtain ⟨o1, o2, rfl⟩ := own_len ro
    have HOK := Lib.hid hok
    clear hb1 hok ra ro DF
    go_wp2
    go_ret
    exact ⟨by rw [HOK.out]; rfl, B1.out⟩
  · have HOK := Lib.hid hok
    clear hb1 hok DF
    go_wp2
    go_ret
    exact ⟨by rw [HOK.out]; rfl, B1.out⟩
end Bead
end Go.Proofs.Ytidnmanljdadaaa
