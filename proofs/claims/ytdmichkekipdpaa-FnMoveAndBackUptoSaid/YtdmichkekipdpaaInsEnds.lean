/- FnInsertAtEndsIsPush returns true. -/
import Derived.Test.YtdmichkekipdpaaScene
import Derived.Test.YtdmichkekipdpaaLast4
set_option linter.all false
namespace Go.Proofs.Ytdmichkekipdpaa
open Go.RowKit
namespace Bead
set_option maxRecDepth 100000

/-- Two insertions at one place look alike. -/
theorem ins_alike {ns : List Cl} {l : Nat} (h : Scened ns l) {o1 o2 : Int} (h1 : o1 = 7 ∨ o1 = 8 ∨ o1 = 9 ∨ o1 = 10) (h2 : o2 = 7 ∨ o2 = 8 ∨ o2 = 9 ∨ o2 = 10) {x1 x2 j1 j2 : Nat} (v : Vl)
    (hx1 : o1 = 9 ∨ o1 = 10 → (runFrom Md.init ns).ret j1 = some x1 ∧ x1 ∈ (runFrom Md.init ns).seq l) (hx2 : o2 = 9 ∨ o2 = 10 → (runFrom Md.init ns).ret j2 = some x2 ∧ x2 ∈ (runFrom Md.init ns).seq l)
    (hp : posOf o1 x1 ((runFrom Md.init ns).seq l) = posOf o2 x2 ((runFrom Md.init ns).seq l)) :
    okFrom 501 Md.init (ns ++ [onL l (cIns (o1 - 4) j1 v)]) = true ∧ okFrom 501 Md.init (ns ++ [onL l (cIns (o2 - 4) j2 v)]) = true ∧
    ∀ k, Look k (runFrom Md.init (ns ++ [onL l (cIns (o1 - 4) j1 v)])) (runFrom Md.init (ns ++ [onL l (cIns (o2 - 4) j2 v)])) := by
  have ok1 : okFrom 501 Md.init ns = true := ok_mono (by decide) _ h.ok
  have hc5 := run_cnt_le ns h.ok (by simp [Md.init])
  have hw := h.wf
  have hl := h.lst
  have hnm := h.named
  generalize hM : runFrom Md.init ns = M at *
  have p1 := perm_ins hw h1 hl (v := v) (j := j1) (x := x1) hx1 (most := 501) (by omega)
  have p2 := perm_ins hw h2 hl (v := v) (j := j2) (x := x2) hx2 (most := 501) (by omega)
  have s1 := ins_step (m := M) (x := x1) (l := l) h1 (c := onL l (cIns (o1 - 4) j1 v)) rfl (by simp [onL]) (fun q => by simpa [onL, cIns] using hx1 q)
  have s2 := ins_step (m := M) (x := x2) (l := l) h2 (c := onL l (cIns (o2 - 4) j2 v)) rfl (by simp [onL]) (fun q => by simpa [onL, cIns] using hx2 q)
  refine ⟨?_, ?_, fun k => ?_⟩
  · rw [okFrom_append, ok1, hM]
    simp only [okFrom, Bool.and_true, Bool.true_and]
    exact (permitted_iff _ _ _).2 p1
  · rw [okFrom_append, ok1, hM]
    simp only [okFrom, Bool.and_true, Bool.true_and]
    exact (permitted_iff _ _ _).2 p2
  · rw [runFrom_append, runFrom_append, hM]
    show Look k (M.step _).1 (M.step _).1
    refine ⟨by rw [s1.seq, s2.seq, hp], fun e _ => by rw [s1.val, s2.val]; rfl, fun e he => ?_⟩
    rw [s1.fst, s2.fst]
    by_cases q : e = M.cnt
    · subst q; exact ⟨_, upd_same _ _ _, upd_same _ _ _⟩
    · rw [upd_other _ _ q]
      have hm : e ∈ M.seq k := by
        rw [s1.seq] at he
        by_cases z : k = l
        · subst z
          rw [upd_same] at he
          unfold ins at he
          rcases List.mem_append.1 he with y | y
          · exact List.mem_of_mem_take y
          · rcases List.mem_cons.1 y with y | y
            · exact absurd y q
            · exact List.mem_of_mem_drop y
        · rw [upd_other _ _ z] at he; exact he
      obtain ⟨i, hi⟩ := hnm k e hm
      exact ⟨i, hi, hi⟩

end Bead
end Go.Proofs.Ytdmichkekipdpaa
