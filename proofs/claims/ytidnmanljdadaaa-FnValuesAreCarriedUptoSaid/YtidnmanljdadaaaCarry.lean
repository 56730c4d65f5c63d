/- Plain law: values are carried. No program is in sight here. -/
import Derived.Test.YtidnmanljdadaaaPlain
set_option linter.all false
namespace Go.Proofs.Ytidnmanljdadaaa
namespace Bead

/-- The value with a number, and the table's value of that number as it is told. -/
def TabV (T : List Vl) (v v' : Vl) : Prop := ∃ i, i < T.length ∧ v = ⟨1, (i : Nat), ByteArray.empty⟩ ∧ v' = canon (T.getD i Vl.zero)
def numC (f : Cl → Nat) (c : Cl) : Cl := { c with v := ⟨1, (f c : Nat), ByteArray.empty⟩ }
def tabC (T : List Vl) (f : Cl → Nat) (c : Cl) : Cl := { c with v := T.getD (f c) Vl.zero }
theorem csim_id {V : Vl → Vl → Prop} {c c' : Cl} (h1 : c'.op = c.op) (h2 : c'.list = c.list) (h3 : c'.other = c.other) (h4 : c'.elem = c.elem) (h5 : c'.mark = c.mark) (hv : V (canon c.v) (canon c'.v)) : CSim false V id id c c' :=
  ⟨h1, fun _ _ h => by rw [h2]; exact (nat_of h).symm, fun _ h => by rw [h3]; exact (nat_of h).symm, fun _ h => by rw [h4]; exact (nat_of h).symm, fun _ h => by rw [h5]; exact (nat_of h).symm, fun _ => hv⟩
theorem carry_run {T : List Vl} {f : Cl → Nat} (hf : ∀ c, f c < T.length) {cs : List Cl} (ho : okFrom 500 Md.init cs = true) :
    okFrom 500 Md.init (cs.map (numC f)) = true ∧ okFrom 500 Md.init (cs.map (tabC T f)) = true ∧
    ∀ (j : Nat) (c : Cl) (x y : An), cs[j]? = some c → (ansFrom Md.init (cs.map (numC f)))[j]? = some x → (ansFrom Md.init (cs.map (tabC T f)))[j]? = some y →
      y.elem = x.elem ∧ y.n = x.n ∧ (if c.op = 11 ∨ c.op = 20 then TabV T x.v y.v else y.v = Vl.zero) := by
  have s1 : CSims false (fun _ _ => True) id id cs (cs.map (numC f)) := csims_of _ _ (by simp) (fun j c c' q q' => by
    rw [List.getElem?_map, q] at q'; simp at q'; subst q'
    exact csim_id rfl rfl rfl rfl rfl trivial)
  have q1 := Sim.lock (rev := false) (V := fun _ _ => True) (r := id) (l := id) (s := id) (most' := 500) cs (cs.map (numC f)) Sim.init WF.init WF.init ho s1 (fun _ => rfl) (fun _ => rfl) (fun _ h => h)
  have s2 : CSims false (TabV T) id id (cs.map (numC f)) (cs.map (tabC T f)) := csims_of _ _ (by simp) (fun j c c' q q' => by
    rw [List.getElem?_map] at q q'
    cases hc : cs[j]? with
    | none => rw [hc] at q; simp at q
    | some d =>
      rw [hc] at q q'; simp at q q'; subst q q'
      refine csim_id rfl rfl rfl rfl rfl ⟨f d, hf d, ?_, rfl⟩
      simp [numC, canon])
  have q2 := Sim.lock (rev := false) (V := TabV T) (r := id) (l := id) (s := id) (most' := 500) (cs.map (numC f)) (cs.map (tabC T f)) Sim.init WF.init WF.init q1.1 s2 (fun _ => rfl) (fun _ => rfl) (fun _ h => h)
  refine ⟨q1.1, q2.1, fun j c x y hc hx hy => ?_⟩
  have a := ASims.get q2.2.1 j (numC f c) x y (by rw [List.getElem?_map, hc]; rfl) hx hy
  obtain ⟨h1, h2, h3⟩ := a
  refine ⟨?_, h1, ?_⟩
  · rcases h2 with ⟨p, q⟩ | ⟨i, p, q⟩
    · rw [p, q]
    · rw [p, q]; rfl
  · change (if c.op = 11 ∨ c.op = 20 then TabV T x.v y.v else x.v = Vl.zero ∧ y.v = Vl.zero) at h3
    split
    · rename_i z; rw [if_pos z] at h3; exact h3
    · rename_i z; rw [if_neg z] at h3; exact h3.2
end Bead
end Go.Proofs.Ytidnmanljdadaaa
