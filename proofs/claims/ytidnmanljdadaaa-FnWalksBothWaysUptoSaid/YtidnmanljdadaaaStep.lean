/- One permitted call, whichever: change or look does what the plain model says. No code is walked here. -/
import Derived.Test.YtidnmanljdadaaaLook
set_option linter.all false
namespace Go.Proofs.Ytidnmanljdadaaa
open Go.RowKit
namespace Bead

theorem toNat_eq {n : Int} (h : 0 ≤ n) : n = ((n.toNat : Nat) : Int) := (Int.toNat_of_nonneg h).symm

section
variable {w : World} {B p pl pe N most : Nat} {m : Md} {b : BM} {bl be : Nat → Nat} {c : Cl}

theorem at_grow (h : IR w B p pl pe N m b bl be) (hw : WF m) (hlen : m.len < N) (hN : N ≤ 4611686018427387904) (hc : m.cnt < 2305843009213693952) : At w B p pl pe N m.grow b bl be m.len :=
  ⟨⟨h.pc, h.lrow, h.erow, h.rep, h.rel.grow, h.vals, h.base⟩, hw.grow, hlen, late hw, hN, hc⟩

theorem clr_ne {l : Int} {k x : Nat} (hst : m.stale c l = false) (hr : m.ret l.toNat = some x) (h20 : c.op < 18) (hk : (k : Int) = c.list) : m.grow.clr x ≠ some k := by
  intro q
  have := (stale_spec hst hr q (by omega) (by omega)).2.2
  exact this hk
theorem clr_none {l : Int} {x : Nat} (hst : m.stale c l = false) (hr : m.ret l.toNat = some x) (h : c.op = 18 ∨ c.op = 19) : m.grow.clr x = none := by
  cases q : m.clr x with
  | none => exact q
  | some k =>
    have := stale_spec hst hr q (by omega) (by omega)
    omega

theorem change_step (h : IR w B p pl pe N m b bl be) (hw : WF m) (hp : Permitted most m c) (hlen : m.len < N) (hN : N ≤ 4611686018427387904) (hc : m.cnt < 2305843009213693952) (hv : c.v.ok) (h3 : 3 ≤ c.op) (h14 : c.op ≤ 14) :
    Calls Try.prog 38 #[.pointer (some ⟨p, 0, none⟩), .int .i64 m.len, c.agg] w (StepPost w B p pl pe N (m.step c).1 (m.step c).2) := by
  have hA := at_grow h hw hlen hN hc
  obtain ⟨hl0, hl1, hl⟩ := hp.list h3 (by omega)
  have hstep : m.step c = m.grow.change m.len c := by unfold Md.step; rw [if_pos ⟨h3, h14⟩]
  rw [hstep]
  have hlN : c.list.toNat < N := by omega
  have hle := toNat_eq hl0
  obtain ⟨op, list, other, elem, mark, v⟩ := c
  simp only at hp hv h3 h14 hl0 hl1 hl hlN hle ⊢
  generalize list.toNat = l at hl hlN hle
  subst hle
  have hcases : op = 3 ∨ op = 4 ∨ op = 5 ∨ op = 6 ∨ op = 7 ∨ op = 8 ∨ op = 9 ∨ op = 10 ∨ op = 11 ∨ op = 12 ∨ op = 13 ∨ op = 14 := by omega
  rcases hcases with rfl | rfl | rfl | rfl | rfl | rfl | rfl | rfl | rfl | rfl | rfl | rfl
  · exact change_3 hA hv hl hlN
  · exact change_4 hA hv hl hlN
  · obtain ⟨hm0, hm1, y, hy⟩ := hp.mark (by simp)
    have hst := hp.staleM (by simp)
    have hme := toNat_eq hm0
    simp only at hm0 hm1 hy hst hme
    have hcl := clr_ne hst hy (by simp) (k := l) rfl
    have hyc := (hw.rlt _ _ hy).2
    simp only [Md.change, Md.insert, Int.toNat_natCast]
    have hy' : m.grow.ret mark.toNat = some y := hy
    simp only [Int.reduceEq, if_false, if_true, hy']
    generalize mark.toNat = j at hy hme hy'
    subst hme
    by_cases q : y ∈ m.grow.seq l
    · rw [if_pos q]; exact change_5 hA hv (by omega) hy' q hl hlN
    · rw [if_neg q]; exact change_5n hA hv (by omega) hy' q hyc hcl hl hlN
  · obtain ⟨hm0, hm1, y, hy⟩ := hp.mark (by simp)
    have hst := hp.staleM (by simp)
    have hme := toNat_eq hm0
    simp only at hm0 hm1 hy hst hme
    have hcl := clr_ne hst hy (by simp) (k := l) rfl
    have hyc := (hw.rlt _ _ hy).2
    simp only [Md.change, Md.insert, Int.toNat_natCast]
    have hy' : m.grow.ret mark.toNat = some y := hy
    simp only [Int.reduceEq, if_false, if_true, hy']
    generalize mark.toNat = j at hy hme hy'
    subst hme
    by_cases q : y ∈ m.grow.seq l
    · rw [if_pos q]; exact change_6 hA hv (by omega) hy' q hl hlN
    · rw [if_neg q]; exact change_6n hA hv (by omega) hy' q hyc hcl hl hlN
  · obtain ⟨he0, he1, x, hx⟩ := hp.elem (by simp)
    have hst := hp.staleE (by simp)
    have hee := toNat_eq he0
    simp only at he0 he1 hx hst hee
    have hcl := clr_ne hst hx (by simp) (k := l) rfl
    have hxc := (hw.rlt _ _ hx).2
    have hx' : m.grow.ret elem.toNat = some x := hx
    simp only [Md.change, Md.move, Md.moveTo, Int.toNat_natCast, Int.reduceEq, if_false, if_true, false_or, true_or, or_true, hx']
    generalize elem.toNat = n at hx hee hx'
    subst hee
    by_cases q : x ∈ m.grow.seq l
    · rw [if_pos q]; exact change_7 hA (by omega) hx' q hl hlN
    · rw [if_neg q]; exact change_7n hA (by omega) hx' q hxc hcl hl hlN
  · obtain ⟨he0, he1, x, hx⟩ := hp.elem (by simp)
    have hst := hp.staleE (by simp)
    have hee := toNat_eq he0
    simp only at he0 he1 hx hst hee
    have hcl := clr_ne hst hx (by simp) (k := l) rfl
    have hxc := (hw.rlt _ _ hx).2
    have hx' : m.grow.ret elem.toNat = some x := hx
    simp only [Md.change, Md.move, Md.moveTo, Int.toNat_natCast, Int.reduceEq, if_false, if_true, false_or, true_or, or_true, hx']
    generalize elem.toNat = n at hx hee hx'
    subst hee
    by_cases q : x ∈ m.grow.seq l
    · rw [if_pos q]; exact change_8 hA (by omega) hx' q hl hlN
    · rw [if_neg q]; exact change_8n hA (by omega) hx' q hxc hcl hl hlN
  · obtain ⟨he0, he1, x, hx⟩ := hp.elem (by simp)
    have hst := hp.staleE (by simp)
    have hee := toNat_eq he0
    obtain ⟨hm0, hm1, y, hy⟩ := hp.mark (by simp)
    have hst2 := hp.staleM (by simp)
    have hme := toNat_eq hm0
    simp only at he0 he1 hx hst hee hm0 hm1 hy hst2 hme
    have hcl := clr_ne hst hx (by simp) (k := l) rfl
    have hxc := (hw.rlt _ _ hx).2
    have hcl2 := clr_ne hst2 hy (by simp) (k := l) rfl
    have hyc := (hw.rlt _ _ hy).2
    have hx' : m.grow.ret elem.toNat = some x := hx
    have hy' : m.grow.ret mark.toNat = some y := hy
    simp only [Md.change, Md.move, Md.moveTo, Int.toNat_natCast, Int.reduceEq, if_false, if_true, false_or, true_or, or_true, hx', hy']
    generalize elem.toNat = n at hx hee hx'
    subst hee
    generalize mark.toNat = j at hy hme hy'
    subst hme
    by_cases q : x ∈ m.grow.seq l
    · rw [if_pos q]
      by_cases q2 : y = x ∨ y ∉ m.grow.seq l
      · rw [if_pos q2]; exact change_9n hA (by omega) hx' (by omega) hy' hxc hyc hcl hcl2 (fun r => q2.elim r.2.1 (fun s => s r.2.2)) hl hlN
      · rw [if_neg q2]; exact change_9 hA (by omega) hx' (by omega) hy' q (Classical.byContradiction fun s => q2 (.inr s)) (fun s => q2 (.inl s)) hl hlN
    · rw [if_neg q]; exact change_9n hA (by omega) hx' (by omega) hy' hxc hyc hcl hcl2 (fun r => q r.1) hl hlN
  · obtain ⟨he0, he1, x, hx⟩ := hp.elem (by simp)
    have hst := hp.staleE (by simp)
    have hee := toNat_eq he0
    obtain ⟨hm0, hm1, y, hy⟩ := hp.mark (by simp)
    have hst2 := hp.staleM (by simp)
    have hme := toNat_eq hm0
    simp only at he0 he1 hx hst hee hm0 hm1 hy hst2 hme
    have hcl := clr_ne hst hx (by simp) (k := l) rfl
    have hxc := (hw.rlt _ _ hx).2
    have hcl2 := clr_ne hst2 hy (by simp) (k := l) rfl
    have hyc := (hw.rlt _ _ hy).2
    have hx' : m.grow.ret elem.toNat = some x := hx
    have hy' : m.grow.ret mark.toNat = some y := hy
    simp only [Md.change, Md.move, Md.moveTo, Int.toNat_natCast, Int.reduceEq, if_false, if_true, false_or, true_or, or_true, hx', hy']
    generalize elem.toNat = n at hx hee hx'
    subst hee
    generalize mark.toNat = j at hy hme hy'
    subst hme
    by_cases q : x ∈ m.grow.seq l
    · rw [if_pos q]
      by_cases q2 : y = x ∨ y ∉ m.grow.seq l
      · rw [if_pos q2]; exact change_10n hA (by omega) hx' (by omega) hy' hxc hyc hcl hcl2 (fun r => q2.elim r.2.1 (fun s => s r.2.2)) hl hlN
      · rw [if_neg q2]; exact change_10 hA (by omega) hx' (by omega) hy' q (Classical.byContradiction fun s => q2 (.inr s)) (fun s => q2 (.inl s)) hl hlN
    · rw [if_neg q]; exact change_10n hA (by omega) hx' (by omega) hy' hxc hyc hcl hcl2 (fun r => q r.1) hl hlN
  · obtain ⟨he0, he1, x, hx⟩ := hp.elem (by simp)
    have hst := hp.staleE (by simp)
    have hee := toNat_eq he0
    simp only at he0 he1 hx hst hee
    have hcl := clr_ne hst hx (by simp) (k := l) rfl
    have hxc := (hw.rlt _ _ hx).2
    have hx' : m.grow.ret elem.toNat = some x := hx
    simp only [Md.change, Md.remove, Int.toNat_natCast, Int.reduceEq, if_false, if_true, false_or, or_false, hx']
    generalize elem.toNat = n at hx hee hx'
    subst hee
    by_cases q : x ∈ m.grow.seq l
    · rw [if_pos q]; exact change_11 hA (by omega) hx' q hl hlN
    · rw [if_neg q]; exact change_11n hA (by omega) hx' q hxc hcl hl hlN
  · obtain ⟨ho0, ho1, ho⟩ := hp.other (by simp)
    have hoe := toNat_eq ho0
    simp only at ho0 ho1 ho hoe
    simp only [Md.change, Md.copies, Int.toNat_natCast, Int.reduceEq, if_false, if_true, false_or, true_or, or_false]
    generalize other.toNat = q at ho hoe
    subst hoe
    exact change_12 hA ho (by omega) hl hlN
  · obtain ⟨ho0, ho1, ho⟩ := hp.other (by simp)
    have hoe := toNat_eq ho0
    simp only at ho0 ho1 ho hoe
    simp only [Md.change, Md.copies, Int.toNat_natCast, Int.reduceEq, if_false, if_true, false_or, or_true, or_false]
    generalize other.toNat = q at ho hoe
    subst hoe
    exact change_13 hA ho (by omega) hl hlN
  · exact change_14 hA hl hlN

theorem look_step (h : IR w B p pl pe N m b bl be) (hw : WF m) (hp : Permitted most m c) (hlen : m.len < N) (hN : N ≤ 4611686018427387904) (hc : m.cnt < 2305843009213693952) (hv : c.v.ok) (hno : ¬ (3 ≤ c.op ∧ c.op ≤ 14)) :
    Calls Try.prog 39 #[.pointer (some ⟨p, 0, none⟩), .int .i64 m.len, c.agg] w (StepPost w B p pl pe N (m.step c).1 (m.step c).2) := by
  have hA := at_grow h hw hlen hN hc
  have hstep : m.step c = m.grow.look m.len c := by unfold Md.step; rw [if_neg hno]
  rw [hstep]
  have hf : m.grow.isL m.len = false := by
    cases q : m.isL m.len with
    | false => exact q
    | true => have := hw.isl _ q; omega
  obtain ⟨op, list, other, elem, mark, v⟩ := c
  have hlo := hp.lo
  have hhi := hp.hi
  simp only at hp hv hno hlo hhi ⊢
  have hcases : op = 0 ∨ op = 1 ∨ op = 2 ∨ op = 15 ∨ op = 16 ∨ op = 17 ∨ op = 18 ∨ op = 19 ∨ op = 20 ∨ op = 21 := by omega
  rcases hcases with rfl | rfl | rfl | rfl | rfl | rfl | rfl | rfl | rfl | rfl
  · exact look_0 hA hf
  · exact look_1 hA hf
  · exact look_2 hA hv
  · obtain ⟨hl0, hl1, hl⟩ := hp.list (by simp) (by simp)
    have hle := toNat_eq hl0
    simp only at hl0 hl1 hl hle
    simp only [Md.look, Int.reduceEq, if_false, if_true, or_false]
    generalize list.toNat = l at hl hle
    subst hle
    exact look_15 hA hl (by omega)
  · obtain ⟨hl0, hl1, hl⟩ := hp.list (by simp) (by simp)
    have hle := toNat_eq hl0
    simp only at hl0 hl1 hl hle
    simp only [Md.look, Int.reduceEq, if_false, if_true, or_false]
    generalize list.toNat = l at hl hle
    subst hle
    exact look_16 hA hl (by omega)
  · obtain ⟨hl0, hl1, hl⟩ := hp.list (by simp) (by simp)
    have hle := toNat_eq hl0
    simp only at hl0 hl1 hl hle
    simp only [Md.look, Int.reduceEq, if_false, if_true, or_false]
    generalize list.toNat = l at hl hle
    subst hle
    exact look_17 hA hl (by omega)
  · obtain ⟨he0, he1, x, hx⟩ := hp.elem (by simp)
    have hcl := clr_none (hp.staleE (by simp)) hx (.inl rfl)
    have hee := toNat_eq he0
    simp only at he0 he1 hx hee
    have hxc := (hw.rlt _ _ hx).2
    have hx' : m.grow.ret elem.toNat = some x := hx
    simp only [Md.look, Int.reduceEq, if_false, if_true, or_false, hx']
    generalize elem.toNat = n at hx hee hx'
    subst hee
    exact look_18 hA (by omega) hx' hxc hcl
  · obtain ⟨he0, he1, x, hx⟩ := hp.elem (by simp)
    have hcl := clr_none (hp.staleE (by simp)) hx (.inr rfl)
    have hee := toNat_eq he0
    simp only at he0 he1 hx hee
    have hxc := (hw.rlt _ _ hx).2
    have hx' : m.grow.ret elem.toNat = some x := hx
    simp only [Md.look, Int.reduceEq, if_false, if_true, or_false, hx']
    generalize elem.toNat = n at hx hee hx'
    subst hee
    exact look_19 hA (by omega) hx' hxc hcl
  · obtain ⟨he0, he1, x, hx⟩ := hp.elem (by simp)
    have hee := toNat_eq he0
    simp only at he0 he1 hx hee
    have hxc := (hw.rlt _ _ hx).2
    have hx' : m.grow.ret elem.toNat = some x := hx
    simp only [Md.look, Int.reduceEq, if_false, if_true, or_false, hx']
    generalize elem.toNat = n at hx hee hx'
    subst hee
    exact look_20 hA (by omega) hx' hxc
  · obtain ⟨he0, he1, x, hx⟩ := hp.elem (by simp)
    have hee := toNat_eq he0
    simp only at he0 he1 hx hee
    have hxc := (hw.rlt _ _ hx).2
    have hx' : m.grow.ret elem.toNat = some x := hx
    simp only [Md.look, Int.reduceEq, if_false, if_true, or_false, hx']
    generalize elem.toNat = n at hx hee hx'
    subst hee
    exact look_21 hA hv (by omega) hx' hxc
end
end Bead
end Go.Proofs.Ytidnmanljdadaaa
