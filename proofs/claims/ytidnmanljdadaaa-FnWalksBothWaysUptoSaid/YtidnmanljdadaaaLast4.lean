/- Regions that draw their order, where two operations are ready at once. No program is in sight here. -/
import Derived.Test.YtidnmanljdadaaaLast3
set_option linter.all false
namespace Go.Proofs.Ytidnmanljdadaaa
namespace Bead
section
variable {P : Program} {ops : Array Oper} {Q : Exit → Act → World → Prop} {md : Region.Mode} {S : World → Prop} {R T : List Nat}
theorem wpT_two {i j : Nat} {oi oj : Oper} {fuel : Nat} {listed : Array Bool} {a : Act} {w : World} (hr : Region.ready md ops listed = [i, j]) (hi' : ops.toList[i]? = some oi) (hj' : ops.toList[j]? = some oj)
    (hgi : Region.wanted oi (yielded ops a.tmps) = true) (hgj : Region.wanted oj (yielded ops a.tmps) = true)
    (h1 : oi.wp P a w (fun a' w' => cond S R T i w w' ∧ wpT P md ops Q S R T fuel (listed.setIfInBounds i true) a' w') Q)
    (h2 : oj.wp P a w (fun a' w' => cond S R T j w w' ∧ wpT P md ops Q S R T fuel (listed.setIfInBounds j true) a' w') Q) : wpT P md ops Q S R T (fuel + 1) listed a w := by
  have hi : ops[i]? = some oi := by rw [← Array.getElem?_toList]; exact hi'
  have hj : ops[j]? = some oj := by rw [← Array.getElem?_toList]; exact hj'
  refine ⟨fun q => (by rw [hr] at q; simp at q), fun k hk => ?_⟩
  rw [hr] at hk
  simp only [List.mem_cons, List.not_mem_nil, or_false] at hk
  rcases hk with rfl | rfl
  · unfold wpOp
    simp only [hi]
    rw [if_pos hgi]
    exact .inl h1
  · unfold wpOp
    simp only [hj]
    rw [if_pos hgj]
    exact .inl h2
theorem cond_keep {i : Nat} {w w' : World} (hi : i ∈ R) (h : S w') : cond S R [] i w w' := by
  unfold cond
  rw [if_neg (by simp), if_pos hi]; exact h
/-- A load whose guard holds is taken first. -/
theorem wpT_loadG {i : Nat} {oi : Oper} {v : Value} {fuel : Nat} {listed : Array Bool} {a : Act} {w : World} (hi' : ops.toList[i]? = some oi)
    (hc : (Region.noSelect ops && Region.free md ops listed i && (Region.ready md ops listed).contains i && !T.contains i && !R.contains i && shutB md ops listed && T.all (fun j => (marks md ops i ops.size).getD j false)) = true)
    (hQ : ∀ c a w, Q (.panic c) (a.put oi.dst v) w → Q (.panic c) a w) (hg : Region.wanted oi (yielded ops a.tmps) = true) (hy : ∀ w, S w → (execOp a.eval oi).run P w = .ok (.value v) w) (hS : S w)
    (h : wpT P md ops Q S R T fuel (listed.setIfInBounds i true) (a.put oi.dst v) w) : wpT P md ops Q S R T (fuel + 1) listed a w := by
  have hi : ops[i]? = some oi := by rw [← Array.getElem?_toList]; exact hi'
  simp only [Bool.and_eq_true, Bool.not_eq_true'] at hc
  obtain ⟨⟨⟨⟨⟨⟨hs, hf⟩, hr⟩, hT⟩, hR⟩, hsh⟩, hm⟩ := hc
  refine wpT_first (Y := S) hi (by simpa using hT) (by simpa using hR) (Region.noSelect_spec hs) hQ (fun listed' hsh' hr' j hj w w' hcd hSw => ?_) fuel listed a w (shutB_spec hsh) (Region.free_spec hi hf) (by simpa using hr) (.inl ⟨hg, hy⟩) hS h
  unfold cond at hcd
  split at hcd
  · rename_i hjT
    have h1 := List.all_eq_true.1 hm j hjT
    have hil : listed'.getD i false = false := getD_tf (mem_ready.1 hr').1
    exact absurd hj (marks_spec hsh' hil _ j h1).2
  · split at hcd
    · exact hcd
    · rw [hcd]; exact hSw
end
end Bead
end Go.Proofs.Ytidnmanljdadaaa
