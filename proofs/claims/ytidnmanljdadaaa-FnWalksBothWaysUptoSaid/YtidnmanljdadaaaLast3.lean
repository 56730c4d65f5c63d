/- Regions that draw their order, with guarded operations that are wanted. No program is in sight here. -/
import Derived.Test.YtidnmanljdadaaaLast2
set_option linter.all false
namespace Go.Proofs.Ytidnmanljdadaaa
namespace Bead
section
variable {P : Program} {ops : Array Oper} {Q : Exit → Act → World → Prop} {md : Region.Mode} {S : World → Prop} {R T : List Nat}
theorem wpT_takeG {i : Nat} {oi : Oper} {v : Value} {fuel : Nat} {listed : Array Bool} {a : Act} {w : World} (hi' : ops.toList[i]? = some oi)
    (hc : (Region.noSelect ops && Region.free md ops listed i && (Region.ready md ops listed).contains i && !T.contains i && !R.contains i && shutB md ops listed) = true)
    (hQ : ∀ c a w, Q (.panic c) (a.put oi.dst v) w → Q (.panic c) a w) (hg : Region.wanted oi (yielded ops a.tmps) = true) (hy : ∀ w, (execOp a.eval oi).run P w = .ok (.value v) w)
    (h : wpT P md ops Q S R T fuel (listed.setIfInBounds i true) (a.put oi.dst v) w) : wpT P md ops Q S R T (fuel + 1) listed a w := by
  have hi : ops[i]? = some oi := by rw [← Array.getElem?_toList]; exact hi'
  simp only [Bool.and_eq_true, Bool.not_eq_true'] at hc
  obtain ⟨⟨⟨⟨⟨hs, hf⟩, hr⟩, hT⟩, hR⟩, hsh⟩ := hc
  exact wpT_first (Y := fun _ => True) hi (by simpa using hT) (by simpa using hR) (Region.noSelect_spec hs) hQ (fun _ _ _ _ _ _ _ _ _ => trivial) fuel listed a w (shutB_spec hsh) (Region.free_spec hi hf) (by simpa using hr) (.inl ⟨hg, fun w _ => hy w⟩) trivial h
theorem wpT_runG {i : Nat} {oi : Oper} {fuel : Nat} {listed : Array Bool} {a : Act} {w : World} (hr : Region.ready md ops listed = [i]) (hi' : ops.toList[i]? = some oi) (hg : Region.wanted oi (yielded ops a.tmps) = true)
    (h : oi.wp P a w (fun a' w' => cond S R T i w w' ∧ wpT P md ops Q S R T fuel (listed.setIfInBounds i true) a' w') Q) : wpT P md ops Q S R T (fuel + 1) listed a w := by
  have hi : ops[i]? = some oi := by rw [← Array.getElem?_toList]; exact hi'
  refine ⟨fun q => (by rw [hr] at q; simp at q), fun j hj => ?_⟩
  rw [hr] at hj
  simp only [List.mem_singleton] at hj
  subst hj
  unfold wpOp
  simp only [hi]
  rw [if_pos hg]
  exact .inl h
end
end Bead
end Go.Proofs.Ytidnmanljdadaaa
