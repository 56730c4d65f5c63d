/- The reference's methods that write: make, answer, put, take. -/
import Derived.Test.YtidnmanljdadaaaSpec2
import Derived.BigRegion
import Derived.Deep.RegionHeld3
import Derived.Deep.RegionLaw
import Derived.Deep.DrawnRows
set_option linter.all false
namespace Go.Proofs.Ytidnmanljdadaaa
open Go.RowKit
namespace Bead
set_option maxRecDepth 100000
attribute [local go_sem ↓] Go.wp_at_zero Go.wp_at_succ

theorem Try.infoElement : (Try.prog.info? 146).map (fun i => (i.zero, i.size, i.bytes)) = some (some (.agg #[.int .i64 0, .int .i64 0, .string ⟨#[]⟩, .int .i64 0, .int .i64 0, .int .i64 0]), 6, 56) := by kernel_rfl
theorem Try.infoInt : (Try.prog.info? 3).map (fun i => (i.zero, i.size, i.bytes)) = some (some (.int .i64 0), 1, 8) := by kernel_rfl
theorem Try.infoBool : (Try.prog.info? 4).map (fun i => (i.zero, i.size, i.bytes)) = some (some (.bool false), 1, 1) := by kernel_rfl
theorem Try.infoSlint : (Try.prog.info? 27).map (fun i => (i.zero, i.size, i.bytes)) = some (some (.slice none 0 0), 1, 24) := by kernel_rfl

/-- An element more: what an append and the store of its slice leave. -/
theorem SR.made {w w1 w2 : World} {B g : Nat} {m : Md} {v0 v1 v2 v3 v3' : Value} {ls : Nat → Value} (h : SR w B g m v0 v1 v2 v3 ls) (hb : Below w.heap.size w w1) {v : Vl} {l : Option Nat} (hclr : m.clr m.cnt = none) (hfst : m.fst m.cnt = none)
    (hown : w2.ownsRow B 146 6 v3' (m.cnt + 1) (erow m m.cnt ++ [.int .i64 (canon v).kind, .int .i64 (canon v).n, .string (canon v).s, .int .i64 (optI l), .int .i64 (-1), .int .i64 (-1)])) (hg : w1.grownBy w2 v3.ownBlock) :
    SR (w2.setCell ⟨g, 3, none⟩ v3') B g (m.make v l) v0 v1 v2 v3' ls := by
  have h1 := h.below hb
  have ho : ∀ {k : Nat} {c : Array Value} {t : TypeId}, w1.heap[k]? = some (Obj.cells c t (0, 0)) → t ≠ 146 → t ≠ 104 → (w2.setCell ⟨g, 3, none⟩ v3').heap[k]? = w1.heap[k]? := by
    intro k c t hk ht ht2
    rw [heap_set_other, hg.block k (Array.getElem?_eq_some_iff.1 hk).1]
    · intro q
      obtain ⟨d, hd⟩ := own_kind h1.r3 k q.symm; rw [hd] at hk; simp at hk; exact ht hk.2.symm
    · rintro rfl
      have := h1.pc; rw [hk] at this; simp at this; exact ht2 this.2
  have hpc : w2.heap[g]? = w1.heap[g]? := hg.block g (Array.getElem?_eq_some_iff.1 h1.pc).1 (by
    intro q
    obtain ⟨d, hd⟩ := own_kind h1.r3 g q.symm; rw [h1.pc] at hd; simp at hd)
  refine ⟨?_, own_of_blocks h1.r0 (fun k q => by obtain ⟨c, hc⟩ := own_kind h1.r0 k q; exact ho hc (by decide) (by decide)), own_of_blocks h1.r1 (fun k q => by obtain ⟨c, hc⟩ := own_kind h1.r1 k q; exact ho hc (by decide) (by decide)),
    own_of_blocks h1.r2 (fun k q => by obtain ⟨c, hc⟩ := own_kind h1.r2 k q; exact ho hc (by decide) (by decide)), ?_, fun j hj => (h1.ll j hj).of_blocks (fun k q => by obtain ⟨c, hc⟩ := (h1.ll j hj).kind k q; exact ho hc (by decide) (by decide)), h.dist, h.base⟩
  · rw [heap_set (hpc.trans h1.pc)]; rfl
  · have e1 : erow (m.make v l) (m.cnt + 1) = erow m m.cnt ++ [.int .i64 (canon v).kind, .int .i64 (canon v).n, .string (canon v).s, .int .i64 (optI l), .int .i64 (-1), .int .i64 (-1)] := by
      rw [erow_snoc, erow_congr (m := m.make v l) (m' := m)]
      · simp only [ecells, Md.make, upd_same, hclr, hfst, optI_none]
      · intro e he
        simp only [ecells, Md.make]
        rw [upd_other _ _ (by omega), upd_other _ _ (by omega)]
    show (w2.setCell ⟨g, 3, none⟩ v3').ownsRow B 146 6 v3' (m.cnt + 1) (erow (m.make v l) (m.cnt + 1))
    rw [e1]
    refine own_of_blocks hown (fun k q => heap_set_other ?_)
    rintro rfl
    obtain ⟨d, hd⟩ := own_kind hown _ q
    rw [hpc, h1.pc] at hd; simp at hd

/-- What a new element leaves. -/
def Made (w w' : World) (B g : Nat) (m : Md) (v0 v1 v2 v3 : Value) (ls : Nat → Value) : Prop :=
  ∃ v3', SR w' B g m v0 v1 v2 v3' ls ∧ (∀ k, v3'.ownBlock = some k → v3.ownBlock = some k ∨ w.heap.size ≤ k) ∧ Keeps (fun k => k = g ∨ v3.ownBlock = some k) w w'
theorem SR.mades {w w1 w2 : World} {B g : Nat} {m : Md} {v0 v1 v2 v3 v3' : Value} {ls : Nat → Value} (h : SR w B g m v0 v1 v2 v3 ls) (hb : Below w.heap.size w w1) {v : Vl} {l : Option Nat} (hclr : m.clr m.cnt = none) (hfst : m.fst m.cnt = none)
    (hown : w2.ownsRow B 146 6 v3' (m.cnt + 1) (erow m m.cnt ++ [.int .i64 (canon v).kind, .int .i64 (canon v).n, .string (canon v).s, .int .i64 (optI l), .int .i64 (-1), .int .i64 (-1)])) (hg : w1.grownBy w2 v3.ownBlock)
    (hn : ∀ k, v3'.ownBlock = some k → v3.ownBlock = some k ∨ w1.heap.size ≤ k) : Made w (w2.setCell ⟨g, 3, none⟩ v3') B g (m.make v l) v0 v1 v2 v3 ls := by
  refine ⟨v3', h.made hb hclr hfst hown hg, fun k q => ?_, ?_⟩
  · rcases hn k q with r | r
    · exact .inl r
    · exact .inr (Nat.le_trans hb.size r)
  · have k1 : Keeps (fun k => k = g ∨ v3.ownBlock = some k) w w1 := ⟨hb.os, hb.tape, hb.output, hb.size, fun k hk _ => hb.block k hk⟩
    exact (k1.grown hg (fun k q _ => .inr q)).setCell (p := ⟨g, 3, none⟩) (fun _ => .inl rfl) _
theorem Made.sp {w w' : World} {B g : Nat} {F : Nat → Prop} {m' : Md} {v0 v1 v2 v3 : Value} {ls : Nat → Value} (h : Made w w' B g m' v0 v1 v2 v3 ls) (hf : ∀ k, Foot g v0 v1 v2 v3 k → F k) : SP w w' B g F m' := by
  obtain ⟨v3', hr, hn, hk⟩ := h
  refine ⟨Foot g v0 v1 v2 v3', ⟨v0, v1, v2, v3', ls, hr, fun _ q => q, fun k q => hr.lt q⟩, ?_, hk.mono (fun k _ q => ?_)⟩
  · rintro k (q | q | q | q | q)
    · exact .inl (hf k (.inl q))
    · exact .inl (hf k (.inr (.inl q)))
    · exact .inl (hf k (.inr (.inr (.inl q))))
    · exact .inl (hf k (.inr (.inr (.inr (.inl q)))))
    · rcases hn k q with r | r
      · exact .inl (hf k (.inr (.inr (.inr (.inr r)))))
      · exact .inr r
  · rcases q with rfl | q
    · exact hf _ (.inl rfl)
    · exact hf k (.inr (.inr (.inr (.inr q))))

set_option maxHeartbeats 1000000 in
theorem make_s {w : World} {B g : Nat} {m : Md} {v0 v1 v2 v3 : Value} {ls : Nat → Value} (hs : SR w B g m v0 v1 v2 v3 ls) (v : Vl) (l : Option Nat) (hclr : m.clr m.cnt = none) (hfst : m.fst m.cnt = none) (hcnt : m.cnt ≤ 1000000) :
    Calls Try.prog 95 #[.pointer (some ⟨g, 0, none⟩), v.agg, .int .i64 (optI l)] w fun r w' => r = .returned (.int .i64 (m.cnt : Nat)) ∧ Made w w' B g (m.make v l) v0 v1 v2 v3 ls := by
  have hBw : B ≤ w.heap.size := by have := hs.lt (k := g) (.inl rfl); omega
  have hgw : g < w.heap.size := (hs.lt (k := g) (.inl rfl)).2
  have H := Lib.hid hs; have HC := Lib.hid (canon_c v)
  have HX := Lib.hid hclr; have HY := Lib.hid hfst
  clear hs hclr hfst
  unfold Vl.agg at HC ⊢
  go_enter Try.func95, Try.ntmps95
  go_wp2
  have b0 : (w.alloc (.cells #[.int .i64 v.kind, .int .i64 v.n, .string v.s] 77)).cell? ⟨w.heap.size, 0, none⟩ = some (.int .i64 v.kind) := cell_of_heap (heap_alloc_new w _) rfl
  have b1 : (w.alloc (.cells #[.int .i64 v.kind, .int .i64 v.n, .string v.s] 77)).cell? ⟨w.heap.size, 1, none⟩ = some (.int .i64 v.n) := cell_of_heap (heap_alloc_new w _) rfl
  have b2 : (w.alloc (.cells #[.int .i64 v.kind, .int .i64 v.n, .string v.s] 77)).cell? ⟨w.heap.size, 2, none⟩ = some (.string v.s) := cell_of_heap (heap_alloc_new w _) rfl
  have c3 := (H.out.alloc (.cells #[.int .i64 v.kind, .int .i64 v.n, .string v.s] 77)).c3
  have BW := Lib.hid (below1 w (.cells #[.int .i64 v.kind, .int .i64 v.n, .string v.s] 77))
  have hW : w.heap.size < (w.alloc (.cells #[.int .i64 v.kind, .int .i64 v.n, .string v.s] 77)).heap.size := by simp
  generalize w.alloc (.cells #[.int .i64 v.kind, .int .i64 v.n, .string v.s] 77) = W at *
  generalize hN : w.heap.size = N at b0 b1 b2 hW
  have HN := Lib.hid hN
  clear hN
  go_region_law
    (first
    | ((go_simp; go_at_call 103
        refine (HC.out _).mono ?_
        rintro r w1 ⟨rfl, hb⟩
        have HB : Hid (Below w.heap.size w w1) := BW.out.drew.trans (hb.mono (by have := HN.out; simp; omega))
        have c3' := (H.out.below HB.out).c3
        have c3a := fun o => ((H.out.below HB.out).alloc o).c3
        clear hb))
    | ((refine step_app2 (by rfl) (.tmp 11) (.tmp 16) 102 (by rfl) B 146 _ 6 56 Try.underlying102 Try.infoElement (by rfl) (by decide) v3 m.cnt _ (by rfl) ((H.out.below HB.out).alloc _).r3 _ 1 [.int .i64 (canon v).kind, .int .i64 (canon v).n, .string (canon v).s, .int .i64 (optI l), .int .i64 (-1), .int .i64 (-1)] (by rfl) (sl_new _ _ _ _ _) (by rfl) (by simp [Value.oneCell']) (.inr (.inr (by decide))) (by omega) (by decide) (by have := HB.out.size; simp; omega) ?_
        intro v' w2 hown hg hn
        have S2 := Lib.hid (H.out.mades (HB.out.alloc HB.out.size _) HX.out HY.out hown hg hn)
        have e3 : ∀ k : Nat, v3.ownBlock = some k → ¬ k = g := by
          rintro k q rfl
          obtain ⟨d, hd⟩ := own_kind H.out.r3 _ q
          rw [H.out.pc] at hd; simp at hd
        have hpc : w2.heap[g]? = _ := (hg.block g (by have := HB.out.size; simp; omega) (fun q => e3 g q.symm rfl)).trans ((H.out.below HB.out).alloc _).pc
        obtain ⟨a', cap', rfl⟩ := own_len hown
        have c3'' : w2.cell? ⟨g, 3, none⟩ = some v3 := cell_of_heap hpc rfl
        have fz : w2.frozen? ⟨g, 3, none⟩ = false := free_of_heap hpc
        clear hown hg hn e3 hpc)))
  all_goals
    go_wp2
    go_ret
    exact ⟨by simp, S2.out⟩

theorem make_c {w : World} {B g : Nat} {F : Nat → Prop} {m : Md} (h : ST w B g F m) (v : Vl) (l : Option Nat) (hclr : m.clr m.cnt = none) (hfst : m.fst m.cnt = none) (hcnt : m.cnt ≤ 1000000) :
    Calls Try.prog 95 #[.pointer (some ⟨g, 0, none⟩), v.agg, .int .i64 (optI l)] w fun r w' => r = .returned (.int .i64 (m.cnt : Nat)) ∧ SP w w' B g F (m.make v l) := by
  obtain ⟨v0, v1, v2, v3, ls, hs, hf, hF⟩ := h
  exact (make_s hs v l hclr hfst hcnt).mono (fun r w' q => ⟨q.1, q.2.sp hf⟩)
end Bead
end Go.Proofs.Ytidnmanljdadaaa
