/- Plain law: what a script does with its first list, it does with a list that Init has cleared. No program is in sight here. -/
import Derived.Test.YtidnmanljdadaaaPlain
set_option linter.all false
namespace Go.Proofs.Ytidnmanljdadaaa
namespace Bead

def cInit (l : Nat) : Cl := ⟨14, l, 0, 0, 0, Vl.zero⟩
theorem perm_init {most : Nat} {m : Md} (h : WF m) {l : Nat} (hl : m.isL l = true) : Permitted most m (cInit l) := by
  have := h.isl l hl
  refine ⟨by simp [cInit], by simp [cInit], fun _ _ => ⟨by simp [cInit], by simp only [cInit]; omega, by simpa [cInit] using hl⟩, fun q => ?_, fun q => ?_, fun q => ?_, fun q => ?_, fun q => ?_, fun q => ?_, fun q => ?_⟩ <;> simp [cInit] at q

def initPlaces (l b n : Nat) : List Nat := l :: List.range' (b + 1) n
theorem initPlaces_nodup {l b n : Nat} (h : l < b) : (initPlaces l b n).Nodup := by
  unfold initPlaces
  rw [List.nodup_cons]
  exact ⟨fun q => by have := (List.mem_range'_1.1 q).1; omega, List.nodup_range'⟩

theorem init_run {B : List Cl} {l : Nat} {c0 : Cl} {cs : List Cl} (hB : okFrom 500 Md.init B = true) (hl : (runFrom Md.init B).isL l = true) (h0 : c0.op = 0) (hc : okFrom 500 Md.init (c0 :: cs) = true) :
    okFrom 1000 Md.init ((B ++ [cInit l]) ++ cs.map (shiftC (initPlaces l B.length cs.length))) = true ∧
    ∀ (j : Nat) (x y : An), (ansFrom (Md.init.step c0).1 cs)[j]? = some x → (ansFrom (runFrom Md.init (B ++ [cInit l])) (cs.map (shiftC (initPlaces l B.length cs.length))))[j]? = some y → unplace (initPlaces l B.length cs.length) y = x := by
  have hwB := WF.run B WF.init hB
  have hlB := hwB.isl l hl
  rw [run_init_len] at hlB
  have hpI := perm_init (most := 500) hwB hl
  have hw' := hwB.step hpI
  have e' : runFrom Md.init (B ++ [cInit l]) = ((runFrom Md.init B).step (cInit l)).1 := by rw [runFrom_append]; rfl
  have es : ((runFrom Md.init B).step (cInit l)).1 = (runFrom Md.init B).grow.clear l := by rw [step_14 _ (c := cInit l) rfl]; rfl
  have hok1 : okFrom 500 Md.init (B ++ [cInit l]) = true := by
    rw [okFrom_append, hB]; simp only [okFrom, Bool.and_true, Bool.true_and]; exact (permitted_iff _ _ _).2 hpI
  have hcnt := run_cnt_le _ hok1 (by simp [Md.init])
  have hlen : (runFrom Md.init (B ++ [cInit l])).len = B.length + 1 := by rw [run_init_len]; simp
  rw [← e'] at hw' es
  generalize hm' : runFrom Md.init (B ++ [cInit l]) = m' at *
  simp only [okFrom, Bool.and_eq_true] at hc
  have hw := WF.init.step ((permitted_iff _ _ _).1 hc.1)
  have em : (Md.init.step c0).1 = { Md.init.grow with isL := upd Md.init.isL 0 true } := by rw [step_01 _ (.inl h0)]; rfl
  have hlen1 : (Md.init.step c0).1.len = 1 := by rw [step_len]; rfl
  let r : Nat → Nat := fun i => if i = 0 then l else B.length + i
  have hr : ∀ i, i < (initPlaces l B.length cs.length).length → r i = (initPlaces l B.length cs.length).getD i 0 := by
    intro i hi
    simp only [initPlaces, List.length_cons, List.length_range'] at hi
    show (if i = 0 then l else B.length + i) = _
    cases i with
    | zero => simp [initPlaces]
    | succ i =>
      rw [if_neg (by omega)]
      simp only [initPlaces, List.getD_eq_getElem?_getD, List.getElem?_cons_succ]
      rw [List.getElem?_range' (by omega)]
      simp; omega
  have isl0 : ∀ k, (Md.init.step c0).1.isL k = true → k = 0 := fun k q => by
    rw [em] at q
    simp only [upd] at q
    split at q
    · assumption
    · simp [Md.init] at q
  have hs : Sim false Eq r r id (Md.init.step c0).1 m' := by
    have z : (Md.init.step c0).1.cnt = 0 := by rw [em]; rfl
    have rn : ∀ i e, (Md.init.step c0).1.ret i ≠ some e := fun i e => by rw [em]; simp [Md.init, Md.grow]
    have sn : ∀ k, (Md.init.step c0).1.seq k = [] := fun k => by rw [em]; rfl
    refine ⟨fun i hi => ?_, fun k q => ?_, fun a b qa qb _ => by rw [isl0 a qa, isl0 b qb], fun e he => by omega, fun e f he => by omega, fun k q => ?_, fun i e q => absurd q (rn i e), fun e he => by omega, fun e he => by omega, fun e he => by omega, fun e he => by omega, fun k e q => by rw [sn] at q; simp at q, fun e he => by rw [em]; exact ⟨rfl, rfl⟩, fun e he => (hw'.out e he).2, fun i e q => absurd q (rn i e)⟩
    · have : i = 0 := by omega
      subst this
      show l < _
      rw [hlen]; omega
    · rw [isl0 k q, es]; exact hl
    · rw [isl0 k q, sn, es]
      show upd _ l [] l = _
      rw [upd_same]; rfl
  have hus : CSims false Eq r r cs (cs.map (shiftC (initPlaces l B.length cs.length))) := by
    refine csims_of _ _ (by simp) (fun j c c' q q' => ?_)
    rw [List.getElem?_map, q] at q'
    simp at q'
    subst q'
    have hj := (List.getElem?_eq_some_iff.1 q).1
    exact shift_sim hr (uses_of cs hc.2 j c q) (by rw [hlen1]; simp [initPlaces]; omega)
  have q := Sim.lock (most' := 1000) cs (cs.map (shiftC (initPlaces l B.length cs.length))) hs hw hw' hc.2 hus (fun j => by
    rw [hlen1, hlen]
    show (if 1 + j = 0 then l else B.length + (1 + j)) = _
    rw [if_neg (by omega)]; omega) (fun j => by
    rw [hlen1, hlen]
    show (if 1 + j = 0 then l else B.length + (1 + j)) = _
    rw [if_neg (by omega)]; omega) (fun n hn => by omega)
  refine ⟨?_, fun j x y hx hy => ?_⟩
  · rw [okFrom_append, hm', q.1, ok_mono (by decide) _ hok1]; rfl
  · have hj : j < cs.length := by have := (List.getElem?_eq_some_iff.1 hx).1; rw [ansFrom_length] at this; exact this
    have a := ASims.get q.2.1 j _ x y (List.getElem?_eq_getElem hj) hx hy
    refine unplace_sim hr (initPlaces_nodup hlB) a ?_
    have := ans_lt cs hw hc.2 j x hx
    rw [hlen1] at this
    simp [initPlaces]; omega
end Bead
end Go.Proofs.Ytidnmanljdadaaa
