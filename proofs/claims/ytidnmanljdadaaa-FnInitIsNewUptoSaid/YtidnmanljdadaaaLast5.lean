/- Regions that draw their order and hold calls that only read: such a call is taken first, too. No program is in sight here. -/
import Derived.Test.YtidnmanljdadaaaLast4
set_option linter.all false
namespace Go.Proofs.Ytidnmanljdadaaa
namespace Bead
section
variable {P : Program} {ops : Array Oper} {Q : Exit → Act → World → Prop} {md : Region.Mode} {Y : World → Prop} {C : Nat → World → World → Prop}

/-- An operation leaves a value and nothing else: it yields it, or is a call that returns it and leaves the world as it is. -/
def Tells (P : Program) (ops : Array Oper) (Y : World → Prop) (o : Oper) (v : Value) (a : Act) : Prop :=
  Region.wanted o (yielded ops a.tmps) = true ∧ ∀ w, Y w → (execOp a.eval o).run P w = .ok (.value v) w ∨ ∃ f args, (execOp a.eval o).run P w = .ok (.enter f args) w ∧ Calls P f args w fun r w' => r = .returned v ∧ w' = w

theorem Tells.of_same {o : Oper} {v : Value} {a a' : Act} (hy : Tells P ops Y o v a) (he : execOp a'.eval o = execOp a.eval o)
    (hw : Region.wanted o (yielded ops a'.tmps) = Region.wanted o (yielded ops a.tmps)) : Tells P ops Y o v a' := by
  unfold Tells at *
  rw [he, hw]
  exact hy

theorem Tells.wpOp {i : Nat} {o : Oper} {v : Value} {a : Act} (hi : ops[i]? = some o) (hy : Tells P ops Y o v a)
    {K : Act → World → Prop} {w : World} (hS : Y w) (h : K (a.put o.dst v) w) : wpOp P ops Q i K a w := by
  unfold Go.wpOp
  simp only [hi]
  obtain ⟨hw, hv⟩ := hy
  simp only [hw, if_true, Oper.wp]
  rcases hv w hS with e | ⟨f, args, e, hc⟩
  · rw [e]; exact .inl h
  · rw [e]
    refine .inl ?_
    simp only [Oper.upon]
    refine Calls.mono hc ?_
    rintro r w' ⟨rfl, rfl⟩
    exact h

theorem wpOp_putT {j : Nat} {oi oj : Oper} {v : Value} (hj : ops[j]? = some oj) (hap : oi.apart ops oj = true)
    (hsi : ∀ cs b, oi.op ≠ .select cs b) (hsj : ∀ cs b, oj.op ≠ .select cs b)
    (hQ : ∀ c a w, Q (.panic c) (a.put oi.dst v) w → Q (.panic c) a w) {K : Act → World → Prop} {a : Act} {w : World}
    (hy : Tells P ops Y oi v a) (h : wpOp P ops Q j K (a.put oi.dst v) w) :
    wpOp P ops Q j (fun a' w' => Tells P ops Y oi v a' ∧ K (a'.put oi.dst v) w') a w := by
  obtain ⟨h1, h2, h3⟩ := Oper.apart_spec hap
  have keep : ∀ (a : Act), Tells P ops Y oi v a → ∀ u, Tells P ops Y oi v (a.put oj.dst u) := fun a hy u =>
    hy.of_same (execOp_put oi hsi a oj.dst u h3) (wanted_put oi a oj.dst u h3)
  have keepD : ∀ d, Tells P ops Y oi v { a with defers := d :: a.defers } := fun d => hy.of_same rfl rfl
  unfold wpOp at *
  simp only [hj] at *
  rw [wanted_put oj a oi.dst v h1] at h
  split
  · rename_i hw
    simp only [hw, if_true] at h
    rcases h with h | ⟨hasks, hlets⟩
    case inr => exact .inr ⟨by unfold Oper.asks at *; rw [execOp_put oj hsj a oi.dst v h1] at hasks; exact hasks, hlets⟩
    refine .inl ?_
    unfold Oper.wp at *
    rw [execOp_put oj hsj a oi.dst v h1] at h
    generalize (execOp a.eval oj).run P w = r at *
    cases r with
    | ok n w' =>
      cases n <;> simp only [Oper.upon] at h ⊢
      case value u => exact ⟨keep a hy u, by rw [← Act.put_comm a v u h2]; exact h⟩
      case skip => exact ⟨keep a hy _, by rw [← Act.put_comm a v undef h2]; exact h⟩
      case defer d =>
        refine ⟨keep _ (keepD d) _, ?_⟩
        rw [← Act.put_comm _ v undef h2, ← Act.put_defers]
        exact h
      case enter f args =>
        refine Calls.mono h fun e w'' he => ?_
        cases e with
        | returned u => exact ⟨keep a hy u, by rw [← Act.put_comm a v u h2]; exact he⟩
        | panicked c => exact hQ _ _ _ he
        | outgrown => exact he
      case row row args => exact Rows.mono h fun u w'' he => ⟨keep a hy u, by rw [← Act.put_comm a v u h2]; exact he⟩
    | halt x w' =>
      cases x <;> simp only [Oper.upon] at h ⊢
      case panic u => exact hQ _ _ _ h
  · rename_i hw
    simp only [hw] at h
    exact ⟨keep a hy _, by rw [← Act.put_comm a v undef h2]; exact h⟩

/-- Whatever order is picked; behind number j, C j tells how the world has changed. -/
def wpC (P : Program) (md : Region.Mode) (ops : Array Oper) (Q : Exit → Act → World → Prop) (C : Nat → World → World → Prop) : Nat → Array Bool → Act → World → Prop
  | 0, listed, a, w => Region.ready md ops listed = [] ∧ Q .normal a w
  | fuel + 1, listed, a, w =>
    (Region.ready md ops listed = [] → Q .normal a w) ∧
    ∀ i ∈ Region.ready md ops listed, wpOp P ops Q i (fun a' w' => C i w w' ∧ wpC P md ops Q C fuel (listed.setIfInBounds i true) a' w') a w

theorem wpC_any : ∀ (fuel : Nat) (listed : Array Bool) (a : Act) (w : World), wpC P md ops Q C fuel listed a w → wpAny P md ops Q fuel listed a w
  | 0, _, _, _, h => h
  | fuel + 1, _, _, _, h => ⟨h.1, fun i hi => wpOp_mono (fun a' w' q => wpC_any fuel _ a' w' q.2) (h.2 i hi)⟩

theorem wpC_first {i : Nat} {oi : Oper} {v : Value} (hi : ops[i]? = some oi) (hC : ∀ w, C i w w) (hsel : ∀ (j : Nat) (o : Oper) cs b, ops[j]? = some o → o.op ≠ .select cs b)
    (hQ : ∀ c a w, Q (.panic c) (a.put oi.dst v) w → Q (.panic c) a w)
    (hY : ∀ listed, Shut md ops listed → i ∈ Region.ready md ops listed → ∀ j ∈ Region.ready md ops listed, ∀ w w', C j w w' → Y w → Y w') :
    ∀ (fuel : Nat) (listed : Array Bool) (a : Act) (w : World), Shut md ops listed →
      (∀ j oj, ops[j]? = some oj → j ≠ i → listed.getD j true = false → (∀ e ∈ oj.after, Region.binds md e = true → e.on ≠ i) → oi.apart ops oj = true) →
      i ∈ Region.ready md ops listed → Tells P ops Y oi v a → Y w →
      wpC P md ops Q C fuel (listed.setIfInBounds i true) (a.put oi.dst v) w → wpC P md ops Q C (fuel + 1) listed a w := by
  intro fuel
  induction fuel with
  | zero =>
    intro listed a w _ _ hr hy hS H
    refine ⟨fun q => (by rw [q] at hr; cases hr), fun j hj => ?_⟩
    by_cases hji : j = i
    · subst hji; exact hy.wpOp hi hS ⟨hC w, H⟩
    · have := ready_mono hj hji
      rw [H.1] at this
      cases this
  | succ fuel ih =>
    intro listed a w hsh hfree hr hy hS H
    refine ⟨fun q => (by rw [q] at hr; cases hr), fun j hj => ?_⟩
    by_cases hji : j = i
    · subst hji; exact hy.wpOp hi hS ⟨hC w, H⟩
    · have h1 := H.2 j (ready_mono hj hji)
      obtain ⟨hjun, oj, hoj, hall⟩ := mem_ready.1 hj
      have hnot : ∀ e ∈ oj.after, Region.binds md e = true → e.on ≠ i := fun e he hb heq => by
        have k1 := hall e he hb
        have k0 := (mem_ready.1 hr).1
        rw [heq] at k1
        rcases Nat.lt_or_ge i listed.size with q | q
        · simp [q] at k0 k1; rw [k0] at k1; cases k1
        · simp [Array.getElem?_eq_none q] at k1
      have h2 := wpOp_putT hoj (hfree j oj hoj hji hjun hnot) (fun cs b => hsel i oi cs b hi) (fun cs b => hsel j oj cs b hoj) hQ hy h1
      have hfree' : ∀ k ok, ops[k]? = some ok → k ≠ i → (listed.setIfInBounds j true).getD k true = false →
          (∀ e ∈ ok.after, Region.binds md e = true → e.on ≠ i) → oi.apart ops ok = true := fun k ok hk hki hun hno => by
        refine hfree k ok hk hki ?_ hno
        by_cases hjk : j = k
        · subst hjk; exact hjun
        · rw [getD_set_ne true hjk] at hun; exact hun
      refine wpOp_mono (fun a' w' h3 => ⟨h3.2.1, ih (listed.setIfInBounds j true) a' w' (hsh.set hj) hfree' (ready_mono hr (Ne.symm hji)) h3.1 (hY listed hsh hr j hj w w' h3.2.1 hS) ?_⟩) h2
      rw [Array.setIfInBounds_comm _ _ hji]
      exact h3.2.2

/-- Number i, a call or a load of what Y tells, is taken first: what changes Y waits for it. -/
theorem wpC_tell (Y : World → Prop) {i : Nat} {oi : Oper} {v : Value} {fuel : Nat} {listed : Array Bool} {a : Act} {w : World} (hi' : ops.toList[i]? = some oi)
    (hc : (Region.noSelect ops && Region.free md ops listed i && (Region.ready md ops listed).contains i && shutB md ops listed) = true) (hC : ∀ w, C i w w)
    (hY : ∀ j, (marks md ops i ops.size).getD j false = false → ∀ w w', C j w w' → Y w → Y w')
    (hQ : ∀ c a w, Q (.panic c) (a.put oi.dst v) w → Q (.panic c) a w) (hy : Tells P ops Y oi v a) (hS : Y w)
    (h : wpC P md ops Q C fuel (listed.setIfInBounds i true) (a.put oi.dst v) w) : wpC P md ops Q C (fuel + 1) listed a w := by
  have hi : ops[i]? = some oi := by rw [← Array.getElem?_toList]; exact hi'
  simp only [Bool.and_eq_true] at hc
  obtain ⟨⟨⟨hs, hf⟩, hr⟩, hsh⟩ := hc
  refine wpC_first (Y := Y) hi hC (Region.noSelect_spec hs) hQ (fun listed' hsh' hr' j hj w w' hcd hSw => ?_) fuel listed a w (shutB_spec hsh) (Region.free_spec hi hf) (by simpa using hr) hy hS h
  refine hY j ?_ w w' hcd hSw
  cases q : (marks md ops i ops.size).getD j false with
  | false => rfl
  | true =>
    have hil : listed'.getD i false = false := getD_tf (mem_ready.1 hr').1
    exact absurd hj (marks_spec hsh' hil _ j q).2

/-- Number i, which does not look at the world, is taken first. -/
theorem wpC_take {i : Nat} {oi : Oper} {v : Value} {fuel : Nat} {listed : Array Bool} {a : Act} {w : World} (hi' : ops.toList[i]? = some oi)
    (hc : (Region.noSelect ops && Region.free md ops listed i && (Region.ready md ops listed).contains i && shutB md ops listed) = true) (hC : ∀ w, C i w w)
    (hQ : ∀ c a w, Q (.panic c) (a.put oi.dst v) w → Q (.panic c) a w) (hg : Region.wanted oi (yielded ops a.tmps) = true) (hy : ∀ w, (execOp a.eval oi).run P w = .ok (.value v) w)
    (h : wpC P md ops Q C fuel (listed.setIfInBounds i true) (a.put oi.dst v) w) : wpC P md ops Q C (fuel + 1) listed a w :=
  wpC_tell (fun _ => True) hi' hc hC (fun _ _ _ _ _ _ => trivial) hQ ⟨hg, fun w _ => .inl (hy w)⟩ trivial h

/-- Whichever comes up is run. -/
theorem wpC_one {rs : List Nat} {fuel : Nat} {listed : Array Bool} {a : Act} {w : World} (hr : Region.ready md ops listed = rs) (hne : rs ≠ [])
    (h : ∀ i ∈ rs, wpOp P ops Q i (fun a' w' => C i w w' ∧ wpC P md ops Q C fuel (listed.setIfInBounds i true) a' w') a w) : wpC P md ops Q C (fuel + 1) listed a w :=
  ⟨fun q => absurd (hr.symm.trans q) hne, fun i hi => h i (by rw [← hr]; exact hi)⟩
theorem wpOp_is {i : Nat} {oi : Oper} {K : Act → World → Prop} {a : Act} {w : World} (hi' : ops.toList[i]? = some oi) (hg : Region.wanted oi (yielded ops a.tmps) = true) (h : oi.wp P a w K Q) : wpOp P ops Q i K a w := by
  have hi : ops[i]? = some oi := by rw [← Array.getElem?_toList]; exact hi'
  unfold wpOp
  simp only [hi]
  rw [if_pos hg]
  exact .inl h

theorem wpC_done {listed : Array Bool} {a : Act} {w : World} (hr : Region.ready md ops listed = []) (h : Q .normal a w) : ∀ fuel, wpC P md ops Q C fuel listed a w
  | 0 => ⟨hr, h⟩
  | _ + 1 => ⟨fun _ => h, by rw [hr]; simp⟩

theorem wp_region_C (C : Nat → World → World → Prop) {id : Nat} {a : Act} {w : World} (hm : P.follows .mixedOrders = true)
    (h : wpC P .any ops Q C ops.size (Array.replicate ops.size false) a w.drew) : (Code.region id ops true).wp P Q a w :=
  wp_region_any hm (wpC_any _ _ _ _ h)
end
end Bead
end Go.Proofs.Ytidnmanljdadaaa
