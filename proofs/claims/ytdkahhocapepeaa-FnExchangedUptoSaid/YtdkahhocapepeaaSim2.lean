/- Plain laws: one run of the model follows another: what each kind of call does. -/
import Derived.Test.YtdkahhocapepeaaSim
set_option linter.all false
namespace Go.Proofs.Ytdkahhocapepeaa
namespace Bead

theorem idxOf_of_get {t : List Nat} (hn : t.Nodup) {x j : Nat} (h : t[j]? = some x) : t.idxOf x = j := by
  obtain ⟨hj, e⟩ := List.getElem?_eq_some_iff.1 h
  have := List.Nodup.idxOf_getElem hn j hj
  rw [e] at this; exact this
theorem get_idxOf {t : List Nat} {x : Nat} (h : x ∈ t) : t[t.idxOf x]? = some x := by
  rw [List.getElem?_eq_getElem (List.idxOf_lt_length_of_mem h), List.getElem_idxOf]
theorem dir_get (rev : Bool) (t : List Nat) {j : Nat} (hj : j < t.length) : (dir rev t)[if rev then t.length - 1 - j else j]? = t[j]? := by
  cases rev
  · simp [dir]
  · simp only [dir, if_true]
    rw [List.getElem?_reverse (by omega)]
    congr 1
    omega
theorem dir_nodup (rev : Bool) {t : List Nat} (h : t.Nodup) : (dir rev t).Nodup := by
  cases rev
  · exact h
  · exact (List.reverse_perm t).nodup_iff.2 h
theorem nodup_map_on {t : List Nat} {f : Nat → Nat} (hn : t.Nodup) (hf : ∀ a ∈ t, ∀ b ∈ t, f a = f b → a = b) : (t.map f).Nodup := by
  induction t with
  | nil => simp
  | cons a t ih =>
    rw [List.nodup_cons] at hn
    rw [List.map_cons, List.nodup_cons]
    refine ⟨fun q => ?_, ih hn.2 (fun x hx y hy => hf x (by simp [hx]) y (by simp [hy]))⟩
    obtain ⟨b, hb, e⟩ := List.mem_map.1 q
    have := hf b (by simp [hb]) a (by simp) e
    subst this; exact hn.1 hb

section
variable {rev : Bool} {V : Vl → Vl → Prop} {r l s : Nat → Nat} {m m' : Md}
theorem Sim.len (h : Sim rev V r l s m m') {k : Nat} (hk : m.isL k = true) : (m'.seq (l k)).length = (m.seq k).length := by rw [h.seq k hk, dir_length, List.length_map]
theorem Sim.nodup (h : Sim rev V r l s m m') {k : Nat} (hk : m.isL k = true) (hn : (m.seq k).Nodup) : (m'.seq (l k)).Nodup := by
  rw [h.seq k hk]
  exact dir_nodup rev (nodup_map_on hn (fun a ha b hb q => h.sinj a b (h.lt k a ha) (h.lt k b hb) q))
theorem Sim.get (h : Sim rev V r l s m m') {k j : Nat} (hk : m.isL k = true) (hj : j < (m.seq k).length) : (m'.seq (l k))[if rev then (m.seq k).length - 1 - j else j]? = ((m.seq k)[j]?).map s := by
  rw [h.seq k hk]
  have := dir_get rev ((m.seq k).map s) (j := j) (by simpa using hj)
  rw [List.length_map] at this
  rw [this, List.getElem?_map]
theorem Sim.idx (h : Sim rev V r l s m m') {k e : Nat} (hk : m.isL k = true) (hn : (m.seq k).Nodup) (he : e ∈ m.seq k) : (m'.seq (l k)).idxOf (s e) = if rev then (m.seq k).length - 1 - (m.seq k).idxOf e else (m.seq k).idxOf e := by
  have hj := List.idxOf_lt_length_of_mem he
  have := h.get hk hj
  rw [get_idxOf he] at this
  exact idxOf_of_get (h.nodup hk hn) this
theorem Sim.ins (h : Sim rev V r l s m m') {k p : Nat} (hk : m.isL k = true) (hp : p ≤ (m.seq k).length) {v v' : Vl} (hv : V (canon v) (canon v')) :
    Sim rev V r l (upd s m.cnt m'.cnt) ((m.make v (some k)).put k p m.cnt) ((m'.make v' (some (l k))).put (l k) (mpos rev (m.seq k).length p) m'.cnt) := by
  have h1 := (h.make hv (some k)).setSeq (k := k) hk (t := (m.seq k).take p ++ m.cnt :: (m.seq k).drop p) (by
    intro e he
    simp only [Md.make]
    rcases List.mem_append.1 he with q | q
    · have := h.lt k e (List.mem_of_mem_take q); omega
    · rcases List.mem_cons.1 q with q | q
      · omega
      · have := h.lt k e (List.mem_of_mem_drop q); omega)
  have e : dir rev (((m.seq k).take p ++ m.cnt :: (m.seq k).drop p).map (upd s m.cnt m'.cnt)) = ((m'.seq (l k)).take (mpos rev (m.seq k).length p) ++ m'.cnt :: (m'.seq (l k)).drop (mpos rev (m.seq k).length p)) := by
    have d := dir_ins rev ((m.seq k).map s) m'.cnt p (by simpa using hp)
    rw [List.length_map] at d
    rw [h.seq k hk, ← d, List.map_append, List.map_cons, upd_same, List.map_take, List.map_drop]
    rw [smap_upd (fun x hx => h.lt k x hx)]
  rw [e] at h1
  exact h1
theorem Sim.without (h : Sim rev V r l s m m') {k e : Nat} (hk : m.isL k = true) (he : e ∈ m.seq k) : (m'.seq (l k)).filter (fun x => decide (x ≠ s e)) = dir rev (((m.seq k).filter fun x => decide (x ≠ e)).map s) := by
  rw [h.seq k hk, dir_filter, List.filter_map]
  congr 2
  refine List.filter_congr (fun x hx => ?_)
  simp only [Function.comp]
  refine decide_eq_decide.2 (not_congr ⟨fun q => h.sinj x e (h.lt k x hx) (h.lt k e he) q, fun q => by rw [q]⟩)
theorem Sim.mv (h : Sim rev V r l s m m') {k e p : Nat} (hk : m.isL k = true) (he : e ∈ m.seq k) (hp : p ≤ ((m.seq k).filter fun x => decide (x ≠ e)).length) :
    Sim rev V r l s ((m.take k e).put k p e) ((m'.take (l k) (s e)).put (l k) (mpos rev ((m.seq k).filter fun x => decide (x ≠ e)).length p) (s e)) := by
  rw [take_put, take_put]
  have h1 := h.setSeq hk (t := ((m.seq k).filter fun x => decide (x ≠ e)).take p ++ e :: ((m.seq k).filter fun x => decide (x ≠ e)).drop p) (by
    intro x hx
    rcases List.mem_append.1 hx with q | q
    · exact h.lt k x (List.mem_filter.1 (List.mem_of_mem_take q)).1
    · rcases List.mem_cons.1 q with q | q
      · rw [q]; exact h.lt k e he
      · exact h.lt k x (List.mem_filter.1 (List.mem_of_mem_drop q)).1)
  have d := dir_ins rev (((m.seq k).filter fun x => decide (x ≠ e)).map s) (s e) p (by simpa using hp)
  rw [List.length_map] at d
  rw [h.without hk he, ← d]
  rw [List.map_append, List.map_cons, List.map_take, List.map_drop] at h1
  exact h1
theorem Sim.drop (h : Sim rev V r l s m m') {k e : Nat} (hk : m.isL k = true) (he : e ∈ m.seq k) : Sim rev V r l s (m.drop k e) (m'.drop (l k) (s e)) := by
  have h1 := h.setSeq hk (t := (m.seq k).filter fun x => decide (x ≠ e)) (fun x hx => h.lt k x (List.mem_filter.1 hx).1)
  rw [← h.without hk he] at h1
  exact h1.setInn (e := e) (h.lt k e he) none

/-- How the copies of xs are numbered. -/
def scopy (rev : Bool) (s : Nat → Nat) (c c' n : Nat) (e : Nat) : Nat := if c ≤ e ∧ e < c + n then (if rev then c' + (n - 1 - (e - c)) else c' + (e - c)) else s e
theorem scopy_old {c c' n e : Nat} (h : e < c) : scopy rev s c c' n e = s e := by unfold scopy; rw [if_neg (by omega)]
theorem scopy_range (c c' n : Nat) : dir rev ((List.range' c n).map (scopy rev s c c' n)) = List.range' c' n := by
  apply List.ext_getElem?
  intro j
  by_cases hj : j < n
  · cases rev
    · simp only [dir, Bool.false_eq_true, if_false, List.getElem?_map, List.getElem?_range' hj, Option.map_some]
      simp [scopy, hj]
    · simp only [dir, if_true]
      rw [List.getElem?_reverse (by simpa using hj)]
      simp only [List.length_map, List.length_range', List.getElem?_map]
      rw [List.getElem?_range' (by omega), List.getElem?_range' hj]
      simp only [Option.map_some, scopy]
      rw [if_pos (by omega)]
      simp only [if_true]
      congr 1
      omega
  · rw [List.getElem?_eq_none (by rw [dir_length]; simp; omega), List.getElem?_eq_none (by simp; omega)]
theorem Sim.copy (h : Sim rev V r l s m m') {k : Nat} {xs : List Nat} (hxs : ∀ x ∈ xs, x < m.cnt) : Sim rev V r l (scopy rev s m.cnt m'.cnt xs.length) (m.copy k xs) (m'.copy (l k) (dir rev (xs.map s))) := by
  have ln : (dir rev (xs.map s)).length = xs.length := by rw [dir_length, List.length_map]
  have new : ∀ e, m.cnt ≤ e → e < m.cnt + xs.length → m'.cnt ≤ scopy rev s m.cnt m'.cnt xs.length e ∧ scopy rev s m.cnt m'.cnt xs.length e < m'.cnt + xs.length := fun e a b => by
    unfold scopy; rw [if_pos ⟨a, b⟩]; cases rev <;> simp <;> omega
  refine ⟨h.rlt, h.isl, h.linj, fun e he => ?_, fun e f he hf q => ?_, fun a ha => ?_, fun i e q => ?_, fun e he => ?_, fun e he => ?_, fun e he => ?_, fun e he => ?_, fun a e he => ?_, fun e he => ?_, fun e he => ?_, fun i e q => ?_⟩
  · simp only [Md.copy, ln] at he ⊢
    by_cases q : e < m.cnt
    · rw [scopy_old q]; have := h.slt e q; omega
    · have := new e (by omega) he; omega
  · simp only [Md.copy] at he hf
    by_cases a : e < m.cnt
    · by_cases b : f < m.cnt
      · rw [scopy_old a, scopy_old b] at q; exact h.sinj e f a b q
      · have := new f (by omega) hf; rw [scopy_old a] at q; have := h.slt e a; omega
    · by_cases b : f < m.cnt
      · have := new e (by omega) he; rw [scopy_old b] at q; have := h.slt f b; omega
      · unfold scopy at q
        rw [if_pos (show m.cnt ≤ e ∧ e < m.cnt + xs.length by omega), if_pos (show m.cnt ≤ f ∧ f < m.cnt + xs.length by omega)] at q
        cases rev
        · simp only [Bool.false_eq_true, if_false] at q; omega
        · simp only [if_true] at q; omega
  · simp only [Md.copy] at ha ⊢
    rw [h.seq a ha]
    congr 1
    exact List.map_congr_left (fun x hx => (scopy_old (h.lt a x hx)).symm)
  · simp only [Md.copy] at q ⊢
    rw [scopy_old (h.rlo i e q)]; exact h.ret i e q
  · simp only [Md.copy, ln] at he ⊢
    by_cases q : e < m.cnt
    · have := h.slt e q
      rw [scopy_old q, if_neg (by omega), if_neg (by omega)]; exact h.inn e q
    · have := new e (by omega) he
      rw [if_pos this, if_pos (by omega)]; rfl
  · simp only [Md.copy] at he ⊢
    by_cases q : e < m.cnt
    · rw [scopy_old q]; exact h.clr e q
    · rw [(h.out e (by omega)).1, (h.out' _ (new e (by omega) he).1).1]; rfl
  · simp only [Md.copy] at he ⊢
    by_cases q : e < m.cnt
    · rw [scopy_old q]; exact h.fst e q
    · rw [(h.out e (by omega)).2, (h.out' _ (new e (by omega) he).1).2]; rfl
  · simp only [Md.copy, ln] at he ⊢
    by_cases q : e < m.cnt
    · have := h.slt e q
      rw [if_neg (by omega), scopy_old q, if_neg (by omega)]; exact h.val e q
    · have nn := new e (by omega) he
      rw [if_pos (by omega), if_pos nn]
      have hj : e - m.cnt < xs.length := by omega
      have e1 : (dir rev (xs.map s)).getD (scopy rev s m.cnt m'.cnt xs.length e - m'.cnt) 0 = s (xs.getD (e - m.cnt) 0) := by
        have g := dir_get rev (xs.map s) (j := e - m.cnt) (by simpa using hj)
        rw [List.length_map, List.getElem?_map, List.getElem?_eq_getElem hj] at g
        have i1 : scopy rev s m.cnt m'.cnt xs.length e - m'.cnt = if rev then xs.length - 1 - (e - m.cnt) else e - m.cnt := by
          unfold scopy; rw [if_pos (by omega)]; cases rev <;> simp <;> omega
        rw [i1, List.getD_eq_getElem?_getD, g, List.getD_eq_getElem?_getD, List.getElem?_eq_getElem hj]; rfl
      rw [e1]
      refine h.val _ (hxs _ ?_)
      rw [List.getD_eq_getElem?_getD, List.getElem?_eq_getElem hj]
      exact List.getElem_mem hj
  · simp only [Md.copy] at he ⊢; have := h.lt a e he; omega
  · simp only [Md.copy] at he ⊢; exact h.out e (by omega)
  · simp only [Md.copy, ln] at he ⊢; exact h.out' e (by omega)
  · simp only [Md.copy] at q ⊢; have := h.rlo i e q; omega
end
end Bead
end Go.Proofs.Ytdkahhocapepeaa
