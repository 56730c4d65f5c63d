/- laws.scene.with once more: its result is the caller's own. -/
import Derived.Test.YtidnmanljdadaaaScene
set_option linter.all false
namespace Go.Proofs.Ytidnmanljdadaaa
open Go.RowKit
namespace Bead
set_option maxRecDepth 100000

set_option maxHeartbeats 4000000 in
theorem with_f {w : World} {vs ve vc : Value} {ns cl : List Cl} {l : Nat} (s : Scr w vs ns) (ss : Scr w vc cl) (he : ∃ a n c, ve = .slice a n c) (hn : ns.length + cl.length ≤ 1099511627776) :
    Calls Try.prog 30 #[.agg #[vs, .int .i64 (l : Nat), ve], vc] w fun r w' => ∃ v', r = .returned v' ∧ w'.ownsRow w.heap.size 32 8 v' (ns.length + cl.length) ((ns ++ cl.map (onL l)).flatMap Cl.cells) ∧ (∀ c ∈ ns ++ cl.map (onL l), c.v.ok) ∧ Below w.heap.size w w' := by
  have CL := Lib.hid (fun o => clone_c (s.sl.later (below1 w o)) s.fair (by omega))
  have S := Lib.hid s; have SS := Lib.hid ss
  obtain ⟨y1, y2, rfl⟩ := s.form
  obtain ⟨z1, z2, rfl⟩ := ss.form
  obtain ⟨e1, e2, e3, rfl⟩ := he
  clear s ss
  go_enter Try.func30, Try.ntmps30
  go_wp2_with fail
  refine (CL.out _).mono ?_
  rintro r w1 ⟨v1, rfl, r1, hb1⟩
  have cl1 := (hb1.cell (p := ⟨w.heap.size, 1, none⟩) (by simp)).trans (cell_of_heap (o := 1) (heap_alloc_new w _) rfl)
  have B1 := Lib.hid ((below1 w _).trans (hb1.mono (by simp)))
  have W0 : Hid (WAt w w1 ns cl l 0 v1) := ⟨by simpa using r1, B1.out, cl1⟩
  have L1 := Lib.hid (show w.heap.size < w1.heap.size by have := hb1.size; simp at this; omega)
  clear r1 hb1 CL cl1
  go_wp2_with fail
  go_loopg [5, 13] cl.length (fun n o k wr => ∃ j, j + n = cl.length ∧ k = .int .i64 j ∧ WAt w wr ns cl l j o)
  case atStart => exact ⟨0, by omega, rfl, W0.out⟩
  case round =>
    clear W0 L1
    obtain ⟨j, hj, rfl, hA⟩ := hrel
    have hc1 := hA.cell
    have hlt : w.heap.size < wr.heap.size := World.block_lt_of_cell? wr _ hc1
    by_cases hk0 : gk = 0
    · subst hk0
      obtain rfl : j = cl.length := by omega
      have F : Hid (wr.ownsRow w.heap.size 32 8 u5 (ns.length + cl.length) ((ns ++ cl.map (onL l)).flatMap Cl.cells) ∧ (∀ c ∈ ns ++ cl.map (onL l), c.v.ok) ∧ Below w.heap.size w wr) := by
        have own := hA.own
        rw [List.take_length] at own
        refine ⟨own_base own (Nat.le_succ _), fun c hc => ?_, hA.below⟩
        rcases List.mem_append.1 hc with q | q
        · exact S.out.ok c q
        · obtain ⟨d, hd, rfl⟩ := List.mem_map.1 q; exact SS.out.ok d hd
      clear hA hj hc1
      go_wp2
      go_ret
      exact ⟨_, rfl, F.out.1, F.out.2.1, F.out.2.2⟩
    · have hjl : j < cl.length := by omega
      obtain ⟨c, hget⟩ : ∃ c, cl[j]? = some c := ⟨_, List.getElem?_eq_getElem hjl⟩
      have hne : cl ≠ [] := by intro q; subst q; simp at hjl
      obtain ⟨b, off, cp, hv, hcell⟩ := SS.out.sl.elem Cl.cells_length (by decide) hne
      simp only [Value.slice.injEq] at hv
      obtain ⟨rfl, _, rfl⟩ := hv
      have hbw : b < w.heap.size := World.block_lt_of_cell? w ⟨b, off + (j * 8 + 0), none⟩ (hcell j c hget 0 _ rfl)
      have cc : ∀ t y, c.cells[t]? = some y → wr.cell? ⟨b, off + j * 8 + t, none⟩ = some y := fun t y hy => by
        rw [hA.below.cell (p := ⟨b, off + j * 8 + t, none⟩) hbw, Nat.add_assoc]; exact hcell j c hget t y hy
      have e0 := cc 0 _ rfl; have e1 := cc 1 _ rfl; have e2 := cc 2 _ rfl; have e3 := cc 3 _ rfl; have e4 := cc 4 _ rfl; have e5 := cc 5 _ rfl; have e6 := cc 6 _ rfl; have e7 := cc 7 _ rfl
      simp only [Nat.add_zero] at e0
      have HA := Lib.hid hA; have HG := Lib.hid hget; have HJ := Lib.hid hj
      have szr := hA.below.size
      obtain ⟨x1, x2, rfl⟩ := own_len hA.own
      clear hA hget hj cc hcell hne
      go_wp2_with (at_builtin; refine wpList_app2 rfl (.tmp 20) (.tmp 22) 22 rfl (w.heap.size + 1) 32 _ 8 72 Try.underlying22 Try.infoICall rfl (by decide) _ _ _ rfl ((HA.out.own.alloc _).alloc _) _ 1 (onL l c).cells rfl (sl_at' _ _ _ _ _ _ (by simp)) rfl (by simp [Cl.cells, Value.oneCell']) (.inr (.inr (by decide))) (by omega) (by decide) (by simp; omega) ?_; intro v' w3 hown hg hn; have N2 := Lib.hid (HA.out.next HG.out hown hg); clear hown hg hn)
      go_roundg (gk - 1)
      case measure => omega
      case rel => exact ⟨j + 1, by have := HJ.out; omega, by go_num, N2.out⟩
theorem own_lit2 (w : World) (xs : List Value) (e : TypeId) {B g n sz : Nat} (hg : w.heap.size = g) (hB : B ≤ g) (hl : xs.length = n * sz) (hn : n ≤ maxLen) : (w.alloc (.cells xs.toArray e)).ownsRow B e sz (.slice (some ⟨g, 0, none⟩) n n) n xs := by
  subst hg
  refine ⟨hl, .inr ⟨w.heap.size, n, xs.toArray, rfl, hB, heap_alloc_new w _, Nat.le_refl _, hn, by simpa using hl, ?_⟩⟩
  rw [List.take_of_length_le (by simp [hl])]
/-- The end of a row of calls, as a script. -/
theorem scr_rest {w : World} {B g n m cap : Nat} {a b : List Cl} (h : w.ownsRow B 32 8 (.slice (some ⟨g, 0, none⟩) (n + m) cap) (n + m) ((a ++ b).flatMap Cl.cells)) (ha : a.length = n) (hb : b.length = m) (hok : ∀ c ∈ b, c.v.ok) (c : Nat) : Scr w (.slice (some ⟨g, n * 8, none⟩) m c) b := by
  refine ⟨?_, fun k c' q => by simp at q, hok⟩
  rw [hb]
  rw [List.flatMap_append] at h
  exact sl_rest h (by rw [flat_length _ 8 Cl.cells_length, ha]) _ rfl c
end Bead
end Go.Proofs.Ytidnmanljdadaaa
