/- Regions that draw their order and end in stores: what the region reads may be taken first although its last stores write there. No program is in sight here. -/
import Derived.OrdersHeld
import Derived.Deep.RegionLaw
set_option linter.all false
namespace Go.Proofs.Ytidnmanljdadaaa
namespace Bead

section
variable {P : Program} {ops : Array Oper} {Q : Exit → Act → World → Prop} {md : Region.Mode} {S : World → Prop} {n : Nat}

/-- Every operation from number n on waits for number i. -/
def tailWaits (md : Region.Mode) (ops : Array Oper) (n i : Nat) : Bool :=
  (List.range ops.size).all fun z => decide (z < n) || (match ops[z]? with | some o => o.after.any (fun e => Region.binds md e && e.on == i) | none => false)

theorem tailWaits_spec {i z : Nat} {o : Oper} (h : tailWaits md ops n i = true) (hz : n ≤ z) (ho : ops[z]? = some o) : ∃ e ∈ o.after, Region.binds md e = true ∧ e.on = i := by
  have h1 := List.all_eq_true.1 h z (by simpa using (Array.getElem?_eq_some_iff.1 ho).1)
  simp only [Bool.or_eq_true, decide_eq_true_eq, ho] at h1
  rcases h1 with h1 | h1
  · omega
  · obtain ⟨e, he, hb⟩ := Array.any_eq_true'.1 h1
    simp only [Bool.and_eq_true, beq_iff_eq] at hb
    exact ⟨e, he, hb.1, hb.2⟩

/-- Whatever order is picked; S holds behind each operation ahead of the tail (numbers n, n + 1, ..). -/
def wpTail (P : Program) (md : Region.Mode) (ops : Array Oper) (Q : Exit → Act → World → Prop) (S : World → Prop) (n : Nat) : Nat → Array Bool → Act → World → Prop
  | 0, listed, a, w => Region.ready md ops listed = [] ∧ Q .normal a w
  | fuel + 1, listed, a, w =>
    (Region.ready md ops listed = [] → Q .normal a w) ∧
    ∀ i ∈ Region.ready md ops listed, wpOp P ops Q i (fun a' w' => (i < n → S w') ∧ wpTail P md ops Q S n fuel (listed.setIfInBounds i true) a' w') a w

theorem wpTail_any : ∀ (fuel : Nat) (listed : Array Bool) (a : Act) (w : World), wpTail P md ops Q S n fuel listed a w → wpAny P md ops Q fuel listed a w
  | 0, _, _, _, h => h
  | fuel + 1, _, _, _, h => ⟨h.1, fun i hi => wpOp_mono (fun a' w' q => wpTail_any fuel _ a' w' q.2) (h.2 i hi)⟩

theorem wpTail_first {i : Nat} {oi : Oper} {v : Value} (hi : ops[i]? = some oi) (hin : i < n) (htl : tailWaits md ops n i = true) (hsel : ∀ (j : Nat) (o : Oper) cs b, ops[j]? = some o → o.op ≠ .select cs b)
    (hQ : ∀ c a w, Q (.panic c) (a.put oi.dst v) w → Q (.panic c) a w) :
    ∀ (fuel : Nat) (listed : Array Bool) (a : Act) (w : World),
      (∀ j oj, ops[j]? = some oj → j ≠ i → listed.getD j true = false → (∀ e ∈ oj.after, Region.binds md e = true → e.on ≠ i) → oi.apart ops oj = true) →
      i ∈ Region.ready md ops listed → YieldsIf P ops S oi v a → S w →
      wpTail P md ops Q S n fuel (listed.setIfInBounds i true) (a.put oi.dst v) w → wpTail P md ops Q S n (fuel + 1) listed a w := by
  intro fuel
  induction fuel with
  | zero =>
    intro listed a w _ hr hy hS H
    refine ⟨fun q => (by rw [q] at hr; cases hr), fun j hj => ?_⟩
    by_cases hji : j = i
    · subst hji; exact hy.wpOp hi hS ⟨fun _ => hS, H⟩
    · have := ready_mono hj hji
      rw [H.1] at this
      cases this
  | succ fuel ih =>
    intro listed a w hfree hr hy hS H
    refine ⟨fun q => (by rw [q] at hr; cases hr), fun j hj => ?_⟩
    by_cases hji : j = i
    · subst hji; exact hy.wpOp hi hS ⟨fun _ => hS, H⟩
    · have h1 := H.2 j (ready_mono hj hji)
      obtain ⟨hjun, oj, hoj, hall⟩ := mem_ready.1 hj
      have hnot : ∀ e ∈ oj.after, Region.binds md e = true → e.on ≠ i := fun e he hb heq => by
        have k1 := hall e he hb
        have k0 := (mem_ready.1 hr).1
        rw [heq] at k1
        rcases Nat.lt_or_ge i listed.size with q | q
        · simp [q] at k0 k1; rw [k0] at k1; cases k1
        · simp [Array.getElem?_eq_none q] at k1
      have hjn : j < n := by
        rcases Nat.lt_or_ge j n with q | q
        · exact q
        · obtain ⟨e, he, hb, hon⟩ := tailWaits_spec htl q hoj
          exact absurd hon (hnot e he hb)
      have h2 := wpOp_putIf hoj (hfree j oj hoj hji hjun hnot) (fun cs b => hsel i oi cs b hi) (fun cs b => hsel j oj cs b hoj) hQ hy h1
      have hfree' : ∀ k ok, ops[k]? = some ok → k ≠ i → (listed.setIfInBounds j true).getD k true = false →
          (∀ e ∈ ok.after, Region.binds md e = true → e.on ≠ i) → oi.apart ops ok = true := fun k ok hk hki hun hno => by
        refine hfree k ok hk hki ?_ hno
        by_cases hjk : j = k
        · subst hjk; exact hjun
        · rw [getD_set_ne true hjk] at hun; exact hun
      refine wpOp_mono (fun a' w' h3 => ⟨fun _ => h3.2.1 hjn, ih (listed.setIfInBounds j true) a' w' hfree' (ready_mono hr (Ne.symm hji)) h3.1 (h3.2.1 hjn) ?_⟩) h2
      rw [Array.setIfInBounds_comm _ _ hji]
      exact h3.2.2

/-- Number i is taken first: what it yields does not hang on the order. -/
theorem wpTail_take {i : Nat} {oi : Oper} {v : Value} {fuel : Nat} {listed : Array Bool} {a : Act} {w : World} (hi' : ops.toList[i]? = some oi)
    (hc : (Region.noSelect ops && Region.free md ops listed i && (Region.ready md ops listed).contains i && decide (i < n) && tailWaits md ops n i) = true)
    (hQ : ∀ c a w, Q (.panic c) (a.put oi.dst v) w → Q (.panic c) a w) (hg : oi.guard = none) (hy : ∀ w, S w → (execOp a.eval oi).run P w = .ok (.value v) w) (hS : S w)
    (h : wpTail P md ops Q S n fuel (listed.setIfInBounds i true) (a.put oi.dst v) w) : wpTail P md ops Q S n (fuel + 1) listed a w := by
  have hi : ops[i]? = some oi := by rw [← Array.getElem?_toList]; exact hi'
  simp only [Bool.and_eq_true, decide_eq_true_eq] at hc
  obtain ⟨⟨⟨⟨hs, hf⟩, hr⟩, hin⟩, ht⟩ := hc
  exact wpTail_first hi hin ht (Region.noSelect_spec hs) hQ fuel listed a w (Region.free_spec hi hf) (by simpa using hr) (.inl ⟨by simp [Region.wanted, hg], hy⟩) hS h

/-- Number i alone may come up, and is run. -/
theorem wpTail_run {i : Nat} {oi : Oper} {fuel : Nat} {listed : Array Bool} {a : Act} {w : World} (hr : Region.ready md ops listed = [i]) (hi' : ops.toList[i]? = some oi) (hg : oi.guard = none)
    (h : oi.wp P a w (fun a' w' => (i < n → S w') ∧ wpTail P md ops Q S n fuel (listed.setIfInBounds i true) a' w') Q) : wpTail P md ops Q S n (fuel + 1) listed a w := by
  have hi : ops[i]? = some oi := by rw [← Array.getElem?_toList]; exact hi'
  refine ⟨fun q => by rw [hr] at q; simp at q, fun j hj => ?_⟩
  rw [hr] at hj
  simp only [List.mem_singleton] at hj
  subst hj
  unfold wpOp
  simp only [hi]
  rw [if_pos (by simp [Region.wanted, hg])]
  exact .inl h

theorem wpTail_done {listed : Array Bool} {a : Act} {w : World} (hr : Region.ready md ops listed = []) (h : Q .normal a w) : ∀ fuel, wpTail P md ops Q S n fuel listed a w
  | 0 => ⟨hr, h⟩
  | _ + 1 => ⟨fun _ => h, by rw [hr]; simp⟩

theorem wp_region_tail (S : World → Prop) (n : Nat) {id : Nat} {a : Act} {w : World} (hm : P.follows .mixedOrders = true)
    (h : wpTail P .any ops Q S n ops.size (Array.replicate ops.size false) a w.drew) : (Code.region id ops true).wp P Q a w :=
  wp_region_any hm (wpTail_any _ _ _ _ h)
end
end Bead
end Go.Proofs.Ytidnmanljdadaaa
