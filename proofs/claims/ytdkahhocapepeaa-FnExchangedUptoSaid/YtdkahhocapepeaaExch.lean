/- Plain law: two lists that have not been used are exchanged. -/
import Derived.Test.YtdkahhocapepeaaSim4
set_option linter.all false
namespace Go.Proofs.Ytdkahhocapepeaa
namespace Bead

def exch (n : Int) : Int := if n = 0 ∨ n = 1 then 1 - n else n
def exN (n : Nat) : Nat := if n = 0 then 1 else if n = 1 then 0 else n
theorem exch_nat {n : Int} (h : 0 ≤ n) : exch n = (exN n.toNat : Nat) := by
  unfold exch exN
  (repeat' split) <;> omega
def exC (c : Cl) : Cl := { c with list := exch c.list, other := exch c.other }
def madeC (c : Cl) : Prop := c.op = 0 ∨ c.op = 1
theorem ex_sims : ∀ cs : List Cl, CSims false Eq id exN cs (cs.map exC)
  | [] => trivial
  | c :: cs => ⟨⟨rfl, fun _ _ h => exch_nat h, fun _ h => exch_nat h, fun _ h => (nat_of h).symm, fun _ h => (nat_of h).symm, fun _ => rfl⟩, ex_sims cs⟩
theorem perm_01 {most : Nat} {m : Md} {c : Cl} (h : c.op = 0 ∨ c.op = 1) : m.permitted most c = true := by
  rcases h with h | h <;> simp [Md.permitted, usesList, usesOther, usesElem, usesMark, makes, h]
theorem ex_run {a b : Cl} {cs : List Cl} (ha : madeC a) (hb : madeC b) (h : okFrom 500 Md.init (a :: b :: cs) = true) : okFrom 500 Md.init ((a :: b :: cs).map exC) = true ∧ ansFrom Md.init ((a :: b :: cs).map exC) = ansFrom Md.init (a :: b :: cs) := by
  have hw := WF.run [a, b] WF.init (most := 500) (by simp only [okFrom, perm_01 ha, perm_01 hb, Bool.and_self])
  have e1 : Md.init.step (exC a) = Md.init.step a := by rw [step_01 _ ha, step_01 _ (c := exC a) ha]
  have e2 : ∀ m : Md, m.step (exC b) = m.step b := fun m => by rw [step_01 _ hb, step_01 _ (c := exC b) hb]
  simp only [okFrom, Bool.and_eq_true] at h
  have hs : Sim false Eq id exN id ((Md.init.step a).1.step b).1 ((Md.init.step a).1.step b).1 := by
    rw [step_01 _ ha, step_01 _ hb]
    have isl : ∀ k, upd (upd (fun _ => false) 0 true) 1 true k = true → k = 0 ∨ k = 1 := fun k q => by
      simp only [upd] at q
      split at q
      · omega
      · split at q
        · omega
        · simp at q
    refine ⟨?_, ?_, ?_, ?_, ?_, ?_, ?_, ?_, ?_, ?_, ?_, ?_, ?_, ?_, ?_⟩
    · intro i hi; exact hi
    · intro k q
      rcases isl k q with rfl | rfl
      · rfl
      · rfl
    · intro x y qx qy z
      rcases isl x qx with rfl | rfl <;> rcases isl y qy with rfl | rfl <;> simp [exN] at z ⊢
    all_goals simp [Md.init, Md.grow, dir]
  have q := Sim.lock (rev := false) (V := Eq) (r := id) (l := exN) (most' := 500) cs (cs.map exC) hs hw hw h.2.2 (ex_sims cs) (fun _ => rfl) (fun j => by
    rw [step_len, step_len]
    show exN (0 + 1 + 1 + j) = 0 + 1 + 1 + j
    unfold exN
    rw [if_neg (by omega), if_neg (by omega)]) (fun _ h => h)
  simp only [List.map_cons, okFrom, ansFrom, e1, e2, Bool.and_eq_true]
  exact ⟨⟨perm_01 ha, perm_01 hb, q.1⟩, by rw [q.2.1.eq]⟩
end Bead
end Go.Proofs.Ytdkahhocapepeaa
