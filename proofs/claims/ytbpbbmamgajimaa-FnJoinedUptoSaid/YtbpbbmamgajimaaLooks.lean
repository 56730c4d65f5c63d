/- FnLooksChangeNothing returns true. -/
import Derived.Test.YtbpbbmamgajimaaScene
set_option linter.all false
namespace Go.Proofs.Ytbpbbmamgajimaa
open Go.RowKit
namespace Bead
set_option maxRecDepth 100000

theorem named_all {cs : List Cl} (ho : okFrom 500 Md.init cs = true) (hlen : cs.length ≤ 1048576) :
    okFrom 500 Md.init (namedC cs) = true ∧ WF (runFrom Md.init (namedC cs)) ∧ (∀ k e, e ∈ (runFrom Md.init (namedC cs)).seq k → ∃ i, (runFrom Md.init (namedC cs)).fst e = some i) ∧ (namedC cs).length ≤ 600000000 := by
  rcases q : listsOf cs with _ | ⟨l, r⟩
  · have e : namedC cs = cs := by unfold namedC; rw [q]; simp [Md.tour]
    rw [e]
    have hw := WF.run cs WF.init ho
    refine ⟨ho, hw, fun k f hf => ?_, by omega⟩
    have := (listsOf_iff cs k).2 (hw.isL_of_mem hf)
    rw [q] at this; simp at this
  · have h := named_scene ho hlen (l := l) (by rw [q]; simp)
    exact ⟨h.ok, h.wf, h.named, h.len⟩

theorem answer_ext {m : Md} (o : Option Nat) (h : m.ret m.len = none) : Ext m (m.grow.answer m.len o).1 := by
  cases o with
  | none => exact grow_ext m
  | some e =>
    refine ⟨rfl, rfl, rfl, rfl, rfl, rfl, Nat.le_succ _, fun i hi => ?_, fun x i q => ?_⟩
    · show upd m.ret m.len (some e) i = _
      rw [upd_other _ _ (by omega)]
    · show upd m.fst e _ x = _
      by_cases z : x = e
      · subst z
        rw [upd_same]
        show some ((m.fst x).getD _) = _
        rw [q]; rfl
      · rw [upd_other _ _ z]; exact q
theorem look_ext {m : Md} (h : WF m) {c : Cl} {most : Nat} (hp : Permitted most m c) (h1 : 15 ≤ c.op) (h2 : c.op ≤ 20) : Ext m (m.step c).1 := by
  have hr := ret_none h (Nat.le_refl m.len)
  rcases (show c.op = 15 ∨ c.op = 16 ∨ c.op = 17 ∨ c.op = 18 ∨ c.op = 19 ∨ c.op = 20 by omega) with q | q | q | q | q | q
  · rw [step_15 m q]; exact answer_ext _ hr
  · rw [step_16 m q]; exact answer_ext _ hr
  · rw [step_17 m q]; exact grow_ext m
  · obtain ⟨_, _, e, he⟩ := hp.elem (by omega)
    rw [step_18 m q he]; exact answer_ext _ hr
  · obtain ⟨_, _, e, he⟩ := hp.elem (by omega)
    rw [step_19 m q he]; exact answer_ext _ hr
  · obtain ⟨_, _, e, he⟩ := hp.elem (by omega)
    rw [step_20 m q he]; exact grow_ext m
theorem looks_ext {most : Nat} : ∀ (cs : List Cl) {m : Md}, WF m → okFrom most m cs = true → (∀ c ∈ cs, 15 ≤ c.op ∧ c.op ≤ 20) → Ext m (runFrom m cs)
  | [], m, _, _, _ => Ext.refl m
  | c :: cs, m, h, ho, hc => by
    simp only [okFrom, Bool.and_eq_true] at ho
    have hp := (permitted_iff _ _ _).1 ho.1
    exact (look_ext h hp (hc c (by simp)).1 (hc c (by simp)).2).trans (looks_ext cs (h.step hp) ho.2 (fun x hx => hc x (by simp [hx])))

end Bead
end Go.Proofs.Ytbpbbmamgajimaa
