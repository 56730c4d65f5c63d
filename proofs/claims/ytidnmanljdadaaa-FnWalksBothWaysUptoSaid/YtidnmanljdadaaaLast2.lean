/- Regions that draw their order, once more: loads are taken first although operations of the region write what they read, where those operations wait for the loads, directly or through others. No program is in sight here. -/
import Derived.OrdersHeld
import Derived.Deep.RegionLaw
set_option linter.all false
namespace Go.Proofs.Ytidnmanljdadaaa
namespace Bead

section
variable {P : Program} {ops : Array Oper} {Q : Exit → Act → World → Prop} {md : Region.Mode} {S : World → Prop} {R T : List Nat}

/-- Of the first k operations: which wait for number i, directly or through others. -/
def marks (md : Region.Mode) (ops : Array Oper) (i : Nat) : Nat → List Bool
  | 0 => []
  | k + 1 => marks md ops i k ++ [match ops[k]? with | some o => o.after.any (fun e => Region.binds md e && (e.on == i || (marks md ops i k).getD e.on false)) | none => false]
theorem marks_length (md : Region.Mode) (ops : Array Oper) (i : Nat) : ∀ k, (marks md ops i k).length = k
  | 0 => rfl
  | k + 1 => by simp [marks, marks_length md ops i k]

theorem getD_tf {l : Array Bool} {i : Nat} (h : l.getD i true = false) : l.getD i false = false := by
  rcases Nat.lt_or_ge i l.size with q | q
  · simp [q] at h ⊢; exact h
  · simp [Array.getElem?_eq_none q] at h

/-- What has come up is closed under waiting. -/
def Shut (md : Region.Mode) (ops : Array Oper) (listed : Array Bool) : Prop := ∀ j oj, ops[j]? = some oj → listed.getD j false = true → ∀ e ∈ oj.after, Region.binds md e = true → listed.getD e.on false = true
def shutB (md : Region.Mode) (ops : Array Oper) (listed : Array Bool) : Bool :=
  (List.range ops.size).all fun j => !listed.getD j false || (match ops[j]? with | some o => o.after.all (fun e => !Region.binds md e || listed.getD e.on false) | none => true)
theorem shutB_spec {listed : Array Bool} (h : shutB md ops listed = true) : Shut md ops listed := by
  intro j oj hj hl e he hb
  have h1 := List.all_eq_true.1 h j (by simpa using (Array.getElem?_eq_some_iff.1 hj).1)
  simp only [hl, Bool.not_true, Bool.false_or, hj] at h1
  have := Array.all_eq_true_iff_forall_mem.1 h1 e he
  simpa [hb] using this
theorem Shut.set {listed : Array Bool} (h : Shut md ops listed) {i : Nat} (hi : i ∈ Region.ready md ops listed) : Shut md ops (listed.setIfInBounds i true) := by
  obtain ⟨_, oi, hoi, hall⟩ := mem_ready.1 hi
  intro j oj hj hl e he hb
  refine getD_set_true ?_
  by_cases q : i = j
  · subst q
    rw [hoi] at hj; simp at hj; subst hj
    exact hall e he hb
  · rw [getD_set_ne false q] at hl
    exact h j oj hj hl e he hb

theorem marks_spec {listed : Array Bool} {i : Nat} (hsh : Shut md ops listed) (hi : listed.getD i false = false) : ∀ (k j : Nat), (marks md ops i k).getD j false = true → listed.getD j false = false ∧ j ∉ Region.ready md ops listed := by
  intro k
  induction k with
  | zero => intro j h; simp [marks] at h
  | succ k ih =>
    intro j h
    have hl := marks_length md ops i k
    by_cases hjk : j < k
    · refine ih j ?_
      simpa [marks, List.getElem?_append_left (show j < (marks md ops i k).length by omega)] using h
    · have hj : j = k := by
        rcases Nat.lt_or_ge j (k + 1) with q | q
        · omega
        · have : (marks md ops i (k + 1))[j]? = none := List.getElem?_eq_none (by rw [marks_length]; exact q)
          rw [List.getD_eq_getElem?_getD, this] at h; simp at h
      subst hj
      rw [List.getD_eq_getElem?_getD, marks, List.getElem?_append_right (by omega), hl, Nat.sub_self] at h
      simp only [List.getElem?_cons_zero, Option.getD_some] at h
      cases ho : ops[j]? with
      | none => rw [ho] at h; simp at h
      | some o =>
        rw [ho] at h
        obtain ⟨e, he, hb⟩ := Array.any_eq_true'.1 h
        simp only [Bool.and_eq_true, Bool.or_eq_true, beq_iff_eq] at hb
        have hno : listed.getD e.on false = false := by
          rcases hb.2 with q | q
          · rw [q]; exact hi
          · exact (ih e.on q).1
        refine ⟨?_, fun q => ?_⟩
        · cases hq : listed.getD j false with
          | false => rfl
          | true => have := hsh j o ho hq e he hb.1; rw [hno] at this; cases this
        · obtain ⟨_, o', ho', hall⟩ := mem_ready.1 q
          rw [ho] at ho'; simp at ho'; subst ho'
          have := hall e he hb.1; rw [hno] at this; cases this

/-- What is asked behind number j: nothing behind those of T, S behind those of R, and that the world is the same behind all others. -/
def cond (S : World → Prop) (R T : List Nat) (j : Nat) (w w' : World) : Prop := if j ∈ T then True else if j ∈ R then S w' else w' = w

def wpT (P : Program) (md : Region.Mode) (ops : Array Oper) (Q : Exit → Act → World → Prop) (S : World → Prop) (R T : List Nat) : Nat → Array Bool → Act → World → Prop
  | 0, listed, a, w => Region.ready md ops listed = [] ∧ Q .normal a w
  | fuel + 1, listed, a, w =>
    (Region.ready md ops listed = [] → Q .normal a w) ∧
    ∀ i ∈ Region.ready md ops listed, wpOp P ops Q i (fun a' w' => cond S R T i w w' ∧ wpT P md ops Q S R T fuel (listed.setIfInBounds i true) a' w') a w

theorem wpT_any : ∀ (fuel : Nat) (listed : Array Bool) (a : Act) (w : World), wpT P md ops Q S R T fuel listed a w → wpAny P md ops Q fuel listed a w
  | 0, _, _, _, h => h
  | fuel + 1, _, _, _, h => ⟨h.1, fun i hi => wpOp_mono (fun a' w' q => wpT_any fuel _ a' w' q.2) (h.2 i hi)⟩

theorem wpT_first {Y : World → Prop} {i : Nat} {oi : Oper} {v : Value} (hi : ops[i]? = some oi) (hT : i ∉ T) (hR : i ∉ R) (hsel : ∀ (j : Nat) (o : Oper) cs b, ops[j]? = some o → o.op ≠ .select cs b)
    (hQ : ∀ c a w, Q (.panic c) (a.put oi.dst v) w → Q (.panic c) a w)
    (hY : ∀ listed, Shut md ops listed → i ∈ Region.ready md ops listed → ∀ j ∈ Region.ready md ops listed, ∀ w w', cond S R T j w w' → Y w → Y w') :
    ∀ (fuel : Nat) (listed : Array Bool) (a : Act) (w : World), Shut md ops listed →
      (∀ j oj, ops[j]? = some oj → j ≠ i → listed.getD j true = false → (∀ e ∈ oj.after, Region.binds md e = true → e.on ≠ i) → oi.apart ops oj = true) →
      i ∈ Region.ready md ops listed → YieldsIf P ops Y oi v a → Y w →
      wpT P md ops Q S R T fuel (listed.setIfInBounds i true) (a.put oi.dst v) w → wpT P md ops Q S R T (fuel + 1) listed a w := by
  have hc : ∀ w, cond S R T i w w := fun w => by unfold cond; rw [if_neg hT, if_neg hR]
  intro fuel
  induction fuel with
  | zero =>
    intro listed a w _ _ hr hy hS H
    refine ⟨fun q => (by rw [q] at hr; cases hr), fun j hj => ?_⟩
    by_cases hji : j = i
    · subst hji; exact hy.wpOp hi hS ⟨hc w, H⟩
    · have := ready_mono hj hji
      rw [H.1] at this
      cases this
  | succ fuel ih =>
    intro listed a w hsh hfree hr hy hS H
    refine ⟨fun q => (by rw [q] at hr; cases hr), fun j hj => ?_⟩
    by_cases hji : j = i
    · subst hji; exact hy.wpOp hi hS ⟨hc w, H⟩
    · have h1 := H.2 j (ready_mono hj hji)
      obtain ⟨hjun, oj, hoj, hall⟩ := mem_ready.1 hj
      have hnot : ∀ e ∈ oj.after, Region.binds md e = true → e.on ≠ i := fun e he hb heq => by
        have k1 := hall e he hb
        have k0 := (mem_ready.1 hr).1
        rw [heq] at k1
        rcases Nat.lt_or_ge i listed.size with q | q
        · simp [q] at k0 k1; rw [k0] at k1; cases k1
        · simp [Array.getElem?_eq_none q] at k1
      have h2 := wpOp_putIf hoj (hfree j oj hoj hji hjun hnot) (fun cs b => hsel i oi cs b hi) (fun cs b => hsel j oj cs b hoj) hQ hy h1
      have hfree' : ∀ k ok, ops[k]? = some ok → k ≠ i → (listed.setIfInBounds j true).getD k true = false →
          (∀ e ∈ ok.after, Region.binds md e = true → e.on ≠ i) → oi.apart ops ok = true := fun k ok hk hki hun hno => by
        refine hfree k ok hk hki ?_ hno
        by_cases hjk : j = k
        · subst hjk; exact hjun
        · rw [getD_set_ne true hjk] at hun; exact hun
      refine wpOp_mono (fun a' w' h3 => ⟨h3.2.1, ih (listed.setIfInBounds j true) a' w' (hsh.set hj) hfree' (ready_mono hr (Ne.symm hji)) h3.1 (hY listed hsh hr j hj w w' h3.2.1 hS) ?_⟩) h2
      rw [Array.setIfInBounds_comm _ _ hji]
      exact h3.2.2

/-- Number i, which does not look at the world, is taken first. -/
theorem wpT_take {i : Nat} {oi : Oper} {v : Value} {fuel : Nat} {listed : Array Bool} {a : Act} {w : World} (hi' : ops.toList[i]? = some oi)
    (hc : (Region.noSelect ops && Region.free md ops listed i && (Region.ready md ops listed).contains i && !T.contains i && !R.contains i && shutB md ops listed) = true)
    (hQ : ∀ c a w, Q (.panic c) (a.put oi.dst v) w → Q (.panic c) a w) (hg : oi.guard = none) (hy : ∀ w, (execOp a.eval oi).run P w = .ok (.value v) w)
    (h : wpT P md ops Q S R T fuel (listed.setIfInBounds i true) (a.put oi.dst v) w) : wpT P md ops Q S R T (fuel + 1) listed a w := by
  have hi : ops[i]? = some oi := by rw [← Array.getElem?_toList]; exact hi'
  simp only [Bool.and_eq_true, Bool.not_eq_true'] at hc
  obtain ⟨⟨⟨⟨⟨hs, hf⟩, hr⟩, hT⟩, hR⟩, hsh⟩ := hc
  exact wpT_first (Y := fun _ => True) hi (by simpa using hT) (by simpa using hR) (Region.noSelect_spec hs) hQ (fun _ _ _ _ _ _ _ _ _ => trivial) fuel listed a w (shutB_spec hsh) (Region.free_spec hi hf) (by simpa using hr) (.inl ⟨by simp [Region.wanted, hg], fun w _ => hy w⟩) trivial h

/-- Number i, a load of what S tells, is taken first: those of T wait for it. -/
theorem wpT_load {i : Nat} {oi : Oper} {v : Value} {fuel : Nat} {listed : Array Bool} {a : Act} {w : World} (hi' : ops.toList[i]? = some oi)
    (hc : (Region.noSelect ops && Region.free md ops listed i && (Region.ready md ops listed).contains i && !T.contains i && !R.contains i && shutB md ops listed && T.all (fun j => (marks md ops i ops.size).getD j false)) = true)
    (hQ : ∀ c a w, Q (.panic c) (a.put oi.dst v) w → Q (.panic c) a w) (hg : oi.guard = none) (hy : ∀ w, S w → (execOp a.eval oi).run P w = .ok (.value v) w) (hS : S w)
    (h : wpT P md ops Q S R T fuel (listed.setIfInBounds i true) (a.put oi.dst v) w) : wpT P md ops Q S R T (fuel + 1) listed a w := by
  have hi : ops[i]? = some oi := by rw [← Array.getElem?_toList]; exact hi'
  simp only [Bool.and_eq_true, Bool.not_eq_true'] at hc
  obtain ⟨⟨⟨⟨⟨⟨hs, hf⟩, hr⟩, hT⟩, hR⟩, hsh⟩, hm⟩ := hc
  refine wpT_first (Y := S) hi (by simpa using hT) (by simpa using hR) (Region.noSelect_spec hs) hQ (fun listed' hsh' hr' j hj w w' hcd hSw => ?_) fuel listed a w (shutB_spec hsh) (Region.free_spec hi hf) (by simpa using hr) (.inl ⟨by simp [Region.wanted, hg], hy⟩) hS h
  unfold cond at hcd
  split at hcd
  · rename_i hjT
    have h1 := List.all_eq_true.1 hm j hjT
    have hil : listed'.getD i false = false := getD_tf (mem_ready.1 hr').1
    exact absurd hj (marks_spec hsh' hil _ j h1).2
  · split at hcd
    · exact hcd
    · rw [hcd]; exact hSw

/-- Number i alone may come up, and is run. -/
theorem wpT_run {i : Nat} {oi : Oper} {fuel : Nat} {listed : Array Bool} {a : Act} {w : World} (hr : Region.ready md ops listed = [i]) (hi' : ops.toList[i]? = some oi) (hg : oi.guard = none)
    (h : oi.wp P a w (fun a' w' => cond S R T i w w' ∧ wpT P md ops Q S R T fuel (listed.setIfInBounds i true) a' w') Q) : wpT P md ops Q S R T (fuel + 1) listed a w := by
  have hi : ops[i]? = some oi := by rw [← Array.getElem?_toList]; exact hi'
  refine ⟨fun q => (by rw [hr] at q; simp at q), fun j hj => ?_⟩
  rw [hr] at hj
  simp only [List.mem_singleton] at hj
  subst hj
  unfold wpOp
  simp only [hi]
  rw [if_pos (by simp [Region.wanted, hg])]
  exact .inl h

theorem wpT_done {listed : Array Bool} {a : Act} {w : World} (hr : Region.ready md ops listed = []) (h : Q .normal a w) : ∀ fuel, wpT P md ops Q S R T fuel listed a w
  | 0 => ⟨hr, h⟩
  | _ + 1 => ⟨fun _ => h, by rw [hr]; simp⟩

theorem wp_region_T (S : World → Prop) (R T : List Nat) {id : Nat} {a : Act} {w : World} (hm : P.follows .mixedOrders = true)
    (h : wpT P .any ops Q S R T ops.size (Array.replicate ops.size false) a w.drew) : (Code.region id ops true).wp P Q a w :=
  wp_region_any hm (wpT_any _ _ _ _ h)
end
end Bead
end Go.Proofs.Ytidnmanljdadaaa
