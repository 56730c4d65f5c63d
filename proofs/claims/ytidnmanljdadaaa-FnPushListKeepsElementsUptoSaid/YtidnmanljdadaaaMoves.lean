/- Plain laws: many moves, one after another. No program is in sight here. -/
import Derived.Test.YtidnmanljdadaaaPlain
set_option linter.all false
namespace Go.Proofs.Ytidnmanljdadaaa
namespace Bead

/-- The state with another sequence of one list, some calls later. -/
def Md.moved (m : Md) (n l : Nat) (s : List Nat) : Md := { m with len := m.len + n, seq := upd m.seq l s }
theorem upd_upd {α : Type} (f : Nat → α) (k : Nat) (a b : α) : upd (upd f k a) k b = upd f k b := by
  funext i
  by_cases h : i = k
  · subst h; rw [upd_same, upd_same]
  · rw [upd_other _ _ h, upd_other _ _ h, upd_other _ _ h]
theorem moved_zero (m : Md) (l : Nat) : m.moved 0 l (m.seq l) = m := by
  unfold Md.moved; rw [upd_self]; rfl
theorem moved_seq (m : Md) (n l : Nat) (s : List Nat) : (m.moved n l s).seq l = s := upd_same _ _ _
/-- What a move makes of a sequence. -/
def moveTo (op : Int) (e x : Nat) (s : List Nat) : List Nat := ins (posOf op x (rm e s)) e (rm e s)
theorem mem_ins {k e y : Nat} {s : List Nat} : y ∈ ins k e s ↔ y = e ∨ y ∈ s := by
  unfold ins
  rw [List.mem_append, List.mem_cons]
  constructor
  · rintro (h | h | h)
    · exact .inr (List.mem_of_mem_take h)
    · exact .inl h
    · exact .inr (List.mem_of_mem_drop h)
  · rintro (h | h)
    · exact .inr (.inl h)
    · rw [← List.take_append_drop k s, List.mem_append] at h
      rcases h with h | h
      · exact .inl h
      · exact .inr (.inr h)
theorem mem_moveTo {op : Int} {e x y : Nat} {s : List Nat} (he : e ∈ s) : y ∈ moveTo op e x s ↔ y ∈ s := by
  unfold moveTo
  rw [mem_ins, mem_rm]
  constructor
  · rintro (h | h)
    · subst h; exact he
    · exact h.1
  · intro h
    by_cases q : y = e
    · exact .inl q
    · exact .inr ⟨h, q⟩
theorem moved_step {m : Md} {n l i j e x : Nat} {s : List Nat} {op : Int} (hop : op = 7 ∨ op = 8 ∨ op = 9 ∨ op = 10) (hi : m.ret i = some e) (he : e ∈ s) (hx : op = 9 ∨ op = 10 → m.ret j = some x ∧ x ∈ s ∧ x ≠ e) :
    (m.moved n l s).step (onL l (cMv op i j)) = (m.moved (n + 1) l (moveTo op e x s), An.no) := by
  have h := mv_step (m := m.moved n l s) (l := l) (e := e) (x := x) (i := i) (j := j) hop hi (by rw [moved_seq]; exact he) (fun q => by rw [moved_seq]; exact hx q)
  rw [h, moved_seq]
  show ((⟨_, _, _, _, _, _, _, _, _⟩ : Md), _) = _
  unfold Md.moved moveTo
  congr 1
  show Md.mk _ _ _ (upd (upd _ _ _) _ _) _ _ _ _ _ = _
  rw [upd_upd]
  rfl
theorem moved_perm {m : Md} {n l i j e x most : Nat} {s : List Nat} {op : Int} (h : WF (m.moved n l s)) (hl : m.isL l = true) (hop : op = 7 ∨ op = 8 ∨ op = 9 ∨ op = 10) (hi : m.ret i = some e) (he : e ∈ s) (hx : op = 9 ∨ op = 10 → m.ret j = some x ∧ x ∈ s) :
    Permitted most (m.moved n l s) (onL l (cMv op i j)) :=
  perm_mv h hop hl hi (by rw [moved_seq]; exact he) (x := x) (fun q => by rw [moved_seq]; exact hx q)

/-- Moves of elements, one after another, to an end. -/
def ends (op : Int) : List Nat → List Nat → List Nat
  | [], s => s
  | e :: T, s => ends op T (moveTo op e 0 s)
theorem ends_all {m : Md} {l most : Nat} {op : Int} (hop : op = 7 ∨ op = 8) (hl : m.isL l = true) (nm : Nat → Nat) : ∀ (T : List Nat) {n : Nat} {s : List Nat}, WF (m.moved n l s) → (∀ e ∈ T, e ∈ s ∧ m.ret (nm e) = some e) →
    okFrom most (m.moved n l s) (T.map fun e => onL l (cMv op (nm e) 0)) = true ∧ runFrom (m.moved n l s) (T.map fun e => onL l (cMv op (nm e) 0)) = m.moved (n + T.length) l (ends op T s)
  | [], _, _, _, _ => ⟨rfl, rfl⟩
  | e :: T, n, s, h, hT => by
    obtain ⟨he, hr⟩ := hT e (by simp)
    have hop' : op = 7 ∨ op = 8 ∨ op = 9 ∨ op = 10 := by omega
    have p := moved_perm (most := most) (x := 0) (j := 0) h hl hop' hr he (fun q => by omega)
    have st := moved_step (m := m) (n := n) (l := l) (j := 0) (x := 0) hop' hr he (fun q => by omega)
    have hw := h.step p
    rw [st] at hw
    obtain ⟨a, b⟩ := ends_all (most := most) hop hl nm T hw (fun f hf => ⟨(mem_moveTo he).2 (hT f (by simp [hf])).1, (hT f (by simp [hf])).2⟩)
    refine ⟨?_, ?_⟩
    · simp only [List.map_cons, okFrom, st, Bool.and_eq_true]
      exact ⟨(permitted_iff _ _ _).2 p, a⟩
    · simp only [List.map_cons, runFrom, st, List.length_cons]
      rw [b]
      show _ = m.moved (n + (T.length + 1)) l (ends op T (moveTo op e 0 s))
      rw [show n + (T.length + 1) = n + 1 + T.length by omega]
theorem rm_filter {e : Nat} {T s : List Nat} : (rm e s).filter (fun x => decide (x ∉ T)) = s.filter (fun x => decide (x ∉ e :: T)) := by
  unfold rm
  rw [List.filter_filter]
  refine List.filter_congr (fun x _ => ?_)
  by_cases h1 : x = e <;> by_cases h2 : x ∈ T <;> simp [h1, h2]
theorem ends_front : ∀ (T : List Nat) {s : List Nat}, T.Nodup → ends 7 T s = T.reverse ++ s.filter (fun x => decide (x ∉ T))
  | [], s, _ => by
    have : s.filter (fun x => decide (x ∉ ([] : List Nat))) = s := List.filter_eq_self.2 (fun x _ => by simp)
    simp only [ends, this, List.reverse_nil, List.nil_append, List.append_nil]
  | e :: T, s, h => by
    rw [List.nodup_cons] at h
    show ends 7 T (moveTo 7 e 0 s) = _
    rw [ends_front T h.2]
    show T.reverse ++ (List.filter _ (e :: rm e s)) = _
    rw [List.filter_cons_of_pos (by simpa using h.1), rm_filter]
    simp
theorem ends_back : ∀ (T : List Nat) {s : List Nat}, T.Nodup → ends 8 T s = s.filter (fun x => decide (x ∉ T)) ++ T
  | [], s, _ => by
    have : s.filter (fun x => decide (x ∉ ([] : List Nat))) = s := List.filter_eq_self.2 (fun x _ => by simp)
    simp only [ends, this, List.reverse_nil, List.nil_append, List.append_nil]
  | e :: T, s, h => by
    rw [List.nodup_cons] at h
    show ends 8 T (moveTo 8 e 0 s) = _
    rw [ends_back T h.2]
    have q : moveTo 8 e 0 s = rm e s ++ [e] := by simp [moveTo, posOf, ins]
    rw [q, List.filter_append, rm_filter, List.filter_cons_of_pos (by simpa using h.1)]
    simp
theorem filter_none {T s : List Nat} (h : ∀ x ∈ s, x ∈ T) : s.filter (fun x => decide (x ∉ T)) = [] := by
  rw [List.filter_eq_nil_iff]; intro x hx; simpa using h x hx
/-- The names of a scene's elements are numbers of calls that returned them. -/
theorem scene_name {ns : List Cl} {l : Nat} (h : Scened ns l) {e : Nat} (he : e ∈ (runFrom Md.init ns).seq l) : (runFrom Md.init ns).ret ((runFrom Md.init ns).name ((runFrom Md.init ns).seq l) e) = some e := by
  obtain ⟨k, hk⟩ := h.named l e he
  have : (runFrom Md.init ns).name ((runFrom Md.init ns).seq l) e = k := by unfold Md.name; rw [hk]; rfl
  rw [this]; exact (h.wf.fst1 e k hk).1
theorem moved_look {m : Md} {n l : Nat} (hn : ∀ k e, e ∈ m.seq k → ∃ i, m.fst e = some i) (k : Nat) : Look k (m.moved n l (m.seq l)) m := by
  have e : (m.moved n l (m.seq l)).seq = m.seq := upd_self _ _
  refine ⟨by rw [e], fun _ _ => rfl, fun f hf => ?_⟩
  rw [e] at hf
  obtain ⟨i, hi⟩ := hn k f hf
  exact ⟨i, hi, hi⟩
theorem moved_names {m : Md} {n l : Nat} {s : List Nat} (hn : ∀ e ∈ s, ∃ i, m.fst e = some i) (S : List Nat) : (m.moved n l s).names s = s.map (m.name S) := by
  unfold Md.names
  refine List.map_congr_left (fun e he => ?_)
  obtain ⟨i, hi⟩ := hn e he
  unfold Md.name
  rw [show (m.moved n l s).fst e = some i from hi, hi]; rfl

/-- Reversing a list by moves to the front. -/
theorem reverse_law {ns : List Cl} {l : Nat} (h : Scened ns l) : ∀ N M, M = runFrom Md.init ns → N = M.names (M.seq l) →
    okFrom 500 Md.init (ns ++ (N.map fun i => cMv 7 i 0).map (onL l)) = true ∧ (runFrom Md.init (ns ++ (N.map fun i => cMv 7 i 0).map (onL l))).names ((runFrom Md.init (ns ++ (N.map fun i => cMv 7 i 0).map (onL l))).seq l) = N.reverse ∧ (runFrom Md.init (ns ++ (N.map fun i => cMv 7 i 0).map (onL l))).seq l = (M.seq l).reverse ∧
    okFrom 500 Md.init (ns ++ ((N.map fun i => cMv 7 i 0) ++ (N.reverse.map fun i => cMv 7 i 0)).map (onL l)) = true ∧ ∀ k, Look k (runFrom Md.init (ns ++ ((N.map fun i => cMv 7 i 0) ++ (N.reverse.map fun i => cMv 7 i 0)).map (onL l))) M := by
  intro N M hM hN
  have nd := h.wf.nodup l
  have hnm := fun e (he : e ∈ (runFrom Md.init ns).seq l) => scene_name h he
  have hok := h.ok; have hw := h.wf; have hl := h.lst; have hnd := h.named
  rw [← hM] at nd hnm hw hl hnd
  have e1 : ∀ T : List Nat, ((T.map (M.name (M.seq l))).map fun i => cMv 7 i 0).map (onL l) = T.map fun e => onL l (cMv 7 (M.name (M.seq l) e) 0) := fun T => by rw [List.map_map, List.map_map]; rfl
  have hN' : N = (M.seq l).map (M.name (M.seq l)) := hN
  have hNr : N.reverse = (M.seq l).reverse.map (M.name (M.seq l)) := by rw [hN', List.map_reverse]
  have w0 : WF (M.moved 0 l (M.seq l)) := by rw [moved_zero]; exact hw
  obtain ⟨a1, b1⟩ := ends_all (most := 500) (m := M) (l := l) (op := 7) (.inl rfl) hl (M.name (M.seq l)) (M.seq l) w0 (fun e he => ⟨he, hnm e he⟩)
  have f1 : ends 7 (M.seq l) (M.seq l) = (M.seq l).reverse := by rw [ends_front _ nd, filter_none (fun x hx => hx), List.append_nil]
  rw [f1] at b1
  rw [moved_zero] at a1 b1
  have w1 : WF (M.moved (0 + (M.seq l).length) l (M.seq l).reverse) := by rw [← b1]; exact WF.run _ hw a1
  obtain ⟨a2, b2⟩ := ends_all (most := 500) (m := M) (l := l) (op := 7) (.inl rfl) hl (M.name (M.seq l)) (M.seq l).reverse w1 (fun e he => ⟨he, hnm e (List.mem_reverse.1 he)⟩)
  have f2 : ends 7 (M.seq l).reverse (M.seq l).reverse = M.seq l := by rw [ends_front _ (by unfold List.Nodup at nd ⊢; rw [List.pairwise_reverse]; exact nd.imp (fun q => Ne.symm q)), filter_none (fun x hx => hx), List.append_nil, List.reverse_reverse]
  rw [f2] at b2
  have r1 : runFrom Md.init (ns ++ (N.map fun i => cMv 7 i 0).map (onL l)) = M.moved (0 + (M.seq l).length) l (M.seq l).reverse := by rw [runFrom_append, ← hM, hN', e1, b1]
  refine ⟨?_, ?_, ?_, ?_, fun k => ?_⟩
  · rw [okFrom_append, hok, ← hM, hN', e1, a1]; rfl
  · rw [r1, moved_seq, moved_names (fun e he => hnd l e (List.mem_reverse.1 he)) (M.seq l), hNr]
  · rw [r1, moved_seq]
  · rw [List.map_append, okFrom_append, hok, okFrom_append, ← hM, hNr, hN', e1, e1, a1, b1, a2]; rfl
  · rw [List.map_append, runFrom_append, runFrom_append, ← hM, hNr, hN', e1, e1, b1, b2]
    exact moved_look hnd k
end Bead
end Go.Proofs.Ytidnmanljdadaaa

/- Plain laws: any order by moves; a list turned. No program is in sight here. -/
namespace Go.Proofs.Ytidnmanljdadaaa
namespace Bead

/-- A permutation of the names is the names of a permutation. -/
theorem perm_names {ns : List Cl} {l : Nat} (h : Scened ns l) {want : List Nat} (hp : want.Perm ((runFrom Md.init ns).names ((runFrom Md.init ns).seq l))) :
    ∃ T : List Nat, T.Perm ((runFrom Md.init ns).seq l) ∧ want = T.map ((runFrom Md.init ns).name ((runFrom Md.init ns).seq l)) := by
  have hnm := fun e (he : e ∈ (runFrom Md.init ns).seq l) => scene_name h he
  generalize runFrom Md.init ns = M at *
  refine ⟨want.map (fun i => (M.ret i).getD 0), ?_, ?_⟩
  · refine (hp.map (fun i => (M.ret i).getD 0)).trans ?_
    have e : (M.names (M.seq l)).map (fun i => (M.ret i).getD 0) = M.seq l := by
      unfold Md.names
      rw [List.map_map]
      conv => rhs; rw [← List.map_id (M.seq l)]
      exact List.map_congr_left (fun e he => by simp [hnm e he])
    rw [e]
  · rw [List.map_map]
    conv => lhs; rw [← List.map_id want]
    refine List.map_congr_left (fun i hi => ?_)
    have q := hp.mem_iff.1 hi
    simp only [Md.names, List.mem_map] at q
    obtain ⟨e, he, rfl⟩ := q
    simp [hnm e he]

/-- At the end of a script, a list stands in an order. -/
structure Ordered (cs : List Cl) (l : Nat) (want : List Nat) : Prop where
  ok : okFrom 500 Md.init cs = true
  lst : (runFrom Md.init cs).isL l = true
  len : ((runFrom Md.init cs).seq l).length = want.length
  fwd : (runFrom Md.init cs).names ((runFrom Md.init cs).seq l) = want
  bwd : (runFrom Md.init cs).names ((runFrom Md.init cs).seq l).reverse = want.reverse
theorem names_of {m : Md} {T : List Nat} (nm : Nat → Nat) (hf : ∀ e ∈ T, m.fst e = some (nm e)) : m.names T = T.map nm := by
  unfold Md.names
  refine List.map_congr_left (fun e he => ?_)
  unfold Md.name
  rw [hf e he]; rfl
theorem ordered_of {cs : List Cl} {l : Nat} {T : List Nat} (nm : Nat → Nat) (ho : okFrom 500 Md.init cs = true) (hl : (runFrom Md.init cs).isL l = true) (hs : (runFrom Md.init cs).seq l = T) (hf : ∀ e ∈ T, (runFrom Md.init cs).fst e = some (nm e)) : Ordered cs l (T.map nm) := by
  refine ⟨ho, hl, ?_, ?_, ?_⟩
  · rw [hs, List.length_map]
  · rw [hs, names_of nm hf]
  · rw [hs, names_of nm (fun e he => hf e (List.mem_reverse.1 he)), List.map_reverse]
theorem scene_fst {ns : List Cl} {l : Nat} (h : Scened ns l) {e : Nat} (he : e ∈ (runFrom Md.init ns).seq l) : (runFrom Md.init ns).fst e = some ((runFrom Md.init ns).name ((runFrom Md.init ns).seq l) e) := by
  obtain ⟨k, hk⟩ := h.named l e he
  have : (runFrom Md.init ns).name ((runFrom Md.init ns).seq l) e = k := by unfold Md.name; rw [hk]; rfl
  rw [this]; exact hk

/-- Any order, by moves to the back. -/
theorem arrange_law {ns : List Cl} {l : Nat} (h : Scened ns l) {want : List Nat} (hp : want.Perm ((runFrom Md.init ns).names ((runFrom Md.init ns).seq l))) : Ordered (ns ++ (want.map fun i => cMv 8 i 0).map (onL l)) l want := by
  obtain ⟨T, hT, rfl⟩ := perm_names h hp
  have hnm := fun e (he : e ∈ (runFrom Md.init ns).seq l) => scene_name h he
  have hfs := fun e (he : e ∈ (runFrom Md.init ns).seq l) => scene_fst h he
  have nd := h.wf.nodup l
  have hok := h.ok; have hw := h.wf; have hl := h.lst
  generalize hM : runFrom Md.init ns = M at *
  have e1 : ((T.map (M.name (M.seq l))).map fun i => cMv 8 i 0).map (onL l) = T.map fun e => onL l (cMv 8 (M.name (M.seq l) e) 0) := by rw [List.map_map, List.map_map]; rfl
  have w0 : WF (M.moved 0 l (M.seq l)) := by rw [moved_zero]; exact hw
  obtain ⟨a1, b1⟩ := ends_all (most := 500) (m := M) (l := l) (op := 8) (.inr rfl) hl (M.name (M.seq l)) T w0 (fun e he => ⟨hT.mem_iff.1 he, hnm e (hT.mem_iff.1 he)⟩)
  have f1 : ends 8 T (M.seq l) = T := by rw [ends_back _ (hT.nodup_iff.2 nd), filter_none (fun x hx => hT.mem_iff.2 hx), List.nil_append]
  rw [f1] at b1
  rw [moved_zero] at a1 b1
  have r1 : runFrom Md.init (ns ++ ((T.map (M.name (M.seq l))).map fun i => cMv 8 i 0).map (onL l)) = M.moved (0 + T.length) l T := by rw [runFrom_append, hM, e1, b1]
  refine ordered_of (M.name (M.seq l)) ?_ ?_ ?_ ?_
  · rw [okFrom_append, hok, hM, e1, a1]; rfl
  · rw [r1]; exact hl
  · rw [r1, moved_seq]
  · rw [r1]; exact fun e he => hfs e (hT.mem_iff.1 he)

/-- Moves of elements, each behind the one before. -/
def chain : Nat → List Nat → List Nat → List Nat
  | _, [], s => s
  | p, e :: T, s => chain e T (moveTo 10 e p s)
def chainC (l : Nat) (nm : Nat → Nat) : Nat → List Nat → List Cl
  | _, [] => []
  | p, e :: T => onL l (cMv 10 (nm e) (nm p)) :: chainC l nm e T
theorem chain_all {m : Md} {l most : Nat} (hl : m.isL l = true) (nm : Nat → Nat) : ∀ (T : List Nat) {p n : Nat} {s : List Nat}, WF (m.moved n l s) → p ∈ s → m.ret (nm p) = some p → (p :: T).Nodup → (∀ e ∈ T, e ∈ s ∧ m.ret (nm e) = some e) →
    okFrom most (m.moved n l s) (chainC l nm p T) = true ∧ runFrom (m.moved n l s) (chainC l nm p T) = m.moved (n + T.length) l (chain p T s)
  | [], _, _, _, _, _, _, _, _ => ⟨rfl, rfl⟩
  | e :: T, p, n, s, h, hp, hrp, hn, hT => by
    obtain ⟨he, hr⟩ := hT e (by simp)
    rw [List.nodup_cons] at hn
    have hne : p ≠ e := fun q => hn.1 (by simp [q])
    have pr := moved_perm (most := most) (x := p) (j := nm p) h hl (op := 10) (.inr (.inr (.inr rfl))) hr he (fun _ => ⟨hrp, hp⟩)
    have st := moved_step (m := m) (n := n) (l := l) (j := nm p) (x := p) (op := 10) (.inr (.inr (.inr rfl))) hr he (fun _ => ⟨hrp, hp, hne⟩)
    have hw := h.step pr
    rw [st] at hw
    obtain ⟨a, b⟩ := chain_all (most := most) hl nm T hw ((mem_moveTo he).2 he) hr hn.2 (fun f hf => ⟨(mem_moveTo he).2 (hT f (by simp [hf])).1, (hT f (by simp [hf])).2⟩)
    refine ⟨?_, ?_⟩
    · simp only [chainC, okFrom, st, Bool.and_eq_true]
      exact ⟨(permitted_iff _ _ _).2 pr, a⟩
    · simp only [chainC, runFrom, st, List.length_cons]
      rw [b]
      show _ = m.moved (n + (T.length + 1)) l (chain e T (moveTo 10 e p s))
      rw [show n + (T.length + 1) = n + 1 + T.length by omega]
theorem chain_eq : ∀ (T A F : List Nat) (p : Nat), (A ++ p :: T).Nodup → chain p T (A ++ p :: F) = A ++ p :: T ++ F.filter (fun x => decide (x ∉ T))
  | [], A, F, p, _ => by
    have : F.filter (fun x => decide (x ∉ ([] : List Nat))) = F := List.filter_eq_self.2 (fun x _ => by simp)
    rw [this]; simp [chain]
  | e :: T, A, F, p, hn => by
    have hn' : (A ++ p :: (e :: T)).Nodup := hn
    have heA : e ∉ A := fun q => by
      rw [List.nodup_append] at hn'
      exact hn'.2.2 e q e (by simp) rfl
    have hpe : p ≠ e := fun q => by
      rw [List.nodup_append, List.nodup_cons] at hn'
      exact hn'.2.1.1 (by simp [q])
    have hpA : p ∉ A := fun q => by
      rw [List.nodup_append] at hn'
      exact hn'.2.2 p q p (by simp) rfl
    have hm : moveTo 10 e p (A ++ p :: F) = (A ++ [p]) ++ e :: rm e F := by
      unfold moveTo
      rw [rm_append, rm_none heA, rm_cons_other hpe]
      have hi : (A ++ p :: rm e F).idxOf p = A.length := by rw [List.idxOf_append, if_neg hpA]; simp
      have hpo : posOf 10 p (A ++ p :: rm e F) = (A ++ [p]).length := by simp [posOf, hi]
      rw [hpo, show A ++ p :: rm e F = (A ++ [p]) ++ rm e F by simp, ins_at]
    show chain e T (moveTo 10 e p (A ++ p :: F)) = _
    rw [hm, chain_eq T (A ++ [p]) (rm e F) e (by simpa using hn'), rm_filter]
    simp
theorem first_move {m : Md} {l n i j e x most : Nat} {s : List Nat} (h : WF (m.moved n l (x :: s))) (hl : m.isL l = true) (hi : m.ret i = some e) (hj : m.ret j = some x) (he : e ∈ x :: s) :
    Permitted most (m.moved n l (x :: s)) (onL l (cMv 9 i j)) ∧ ((m.moved n l (x :: s)).step (onL l (cMv 9 i j))).1 = m.moved (n + 1) l (e :: rm e (x :: s)) := by
  refine ⟨moved_perm h hl (.inr (.inr (.inl rfl))) hi he (x := x) (fun _ => ⟨hj, by simp⟩), ?_⟩
  by_cases q : x = e
  · subst q
    have nd := h.nodup l
    rw [moved_seq, List.nodup_cons] at nd
    rw [rm_cons_same, rm_none nd.1, mv_9_not (m := m.moved n l (x :: s)) (c := onL l (cMv 9 i j)) (l := l) (e := x) (x := x) (.inl rfl) (by simp [onL]) (by simpa [onL, cMv, Md.moved] using hi) (by simpa [onL, cMv, Md.moved] using hj) (.inr (.inl rfl))]
    rfl
  · rw [moved_step (op := 9) (.inr (.inr (.inl rfl))) hi he (x := x) (fun _ => ⟨hj, by simp, q⟩)]
    unfold moveTo
    rw [rm_cons_other q]
    simp [posOf, ins]
/-- The calls of FnEveryOrder, by the numbers. -/
def everyC (want : List Nat) (f : Nat) : List Cl := cMv 9 (want.getD 0 0) f :: (List.range (want.length - 1)).map (fun j => cMv 10 (want.getD (j + 1) 0) (want.getD j 0))
theorem chainC_eq (l : Nat) (nm : Nat → Nat) : ∀ (T : List Nat) (p : Nat), chainC l nm p T = ((List.range T.length).map (fun j => cMv 10 (((p :: T).map nm).getD (j + 1) 0) (((p :: T).map nm).getD j 0))).map (onL l)
  | [], _ => rfl
  | e :: T, p => by
    rw [chainC, chainC_eq l nm T e, List.length_cons, List.range_succ_eq_map, List.map_cons, List.map_cons, List.map_map, List.map_map]
    congr 1
    rw [List.map_map]
    rfl
theorem every_law {ns : List Cl} {l : Nat} (h : Scened ns l) {want : List Nat} {f : Nat} (hp : want.Perm ((runFrom Md.init ns).names ((runFrom Md.init ns).seq l))) (hf : ((runFrom Md.init ns).names ((runFrom Md.init ns).seq l))[0]? = some f) : Ordered (ns ++ (everyC want f).map (onL l)) l want := by
  obtain ⟨T, hT, rfl⟩ := perm_names h hp
  have hnm := fun e (he : e ∈ (runFrom Md.init ns).seq l) => scene_name h he
  have hfs := fun e (he : e ∈ (runFrom Md.init ns).seq l) => scene_fst h he
  have nd := h.wf.nodup l
  have hok := h.ok; have hw := h.wf; have hl := h.lst
  generalize hM : runFrom Md.init ns = M at *
  have ndT := hT.nodup_iff.2 nd
  rcases hS : M.seq l with _ | ⟨x, S⟩
  · rw [hS] at hf; simp [Md.names] at hf
  rcases T with _ | ⟨t, T⟩
  · have := hT.length_eq; rw [hS] at this; simp at this
  have hx : f = M.name (M.seq l) x := by rw [hS] at hf ⊢; simpa [Md.names] using hf.symm
  have e1 : (everyC ((t :: T).map (M.name (M.seq l))) f).map (onL l) = onL l (cMv 9 (M.name (M.seq l) t) (M.name (M.seq l) x)) :: chainC l (M.name (M.seq l)) t T := by
    rw [chainC_eq, everyC, List.map_cons, hx]
    simp
  have w0 : WF (M.moved 0 l (x :: S)) := by rw [← hS, moved_zero]; exact hw
  have htm : t ∈ M.seq l := hT.mem_iff.1 (by simp)
  obtain ⟨p1, s1⟩ := first_move (most := 500) (e := t) (x := x) w0 hl (hnm t htm) (hnm x (by rw [hS]; simp)) (by rw [← hS]; exact htm)
  have w1 := w0.step p1
  rw [s1] at w1
  obtain ⟨a1, b1⟩ := chain_all (most := 500) (m := M) (l := l) hl (M.name (M.seq l)) T (p := t) w1 (by simp) (hnm t htm) ndT (fun e he => ⟨by
    have : e ≠ t := fun q => (List.nodup_cons.1 ndT).1 (q ▸ he)
    have h2 : e ∈ M.seq l := hT.mem_iff.1 (by simp [he])
    rw [hS] at h2
    exact List.mem_cons_of_mem _ (mem_rm.2 ⟨h2, this⟩), hnm e (hT.mem_iff.1 (by simp [he]))⟩)
  have f1 : chain t T (t :: rm t (x :: S)) = t :: T := by
    have q := chain_eq T [] (rm t (x :: S)) t (by simpa using ndT)
    simp only [List.nil_append] at q
    rw [q, filter_none (fun y hy => ?_), List.append_nil]
    rw [mem_rm, ← hS] at hy
    have h3 : y ∈ t :: T := hT.mem_iff.2 hy.1
    rcases List.mem_cons.1 h3 with z | z
    · exact absurd z hy.2
    · exact z
  rw [f1] at b1
  have r0 : runFrom M (onL l (cMv 9 (M.name (M.seq l) t) (M.name (M.seq l) x)) :: chainC l (M.name (M.seq l)) t T) = M.moved (0 + 1 + T.length) l (t :: T) := by
    have := b1
    simp only [runFrom]
    rw [← this, ← s1, ← hS, moved_zero]
  have o0 : okFrom 500 M (onL l (cMv 9 (M.name (M.seq l) t) (M.name (M.seq l) x)) :: chainC l (M.name (M.seq l)) t T) = true := by
    simp only [okFrom, Bool.and_eq_true]
    rw [← s1, ← hS, moved_zero] at a1
    rw [← hS, moved_zero] at p1
    exact ⟨(permitted_iff _ _ _).2 p1, a1⟩
  have r1 : runFrom Md.init (ns ++ (everyC ((t :: T).map (M.name (M.seq l))) f).map (onL l)) = M.moved (0 + 1 + T.length) l (t :: T) := by rw [runFrom_append, hM, e1, r0]
  rw [← hS] at *
  refine ordered_of (M.name (M.seq l)) ?_ ?_ ?_ ?_
  · rw [okFrom_append, hok, hM, e1, o0]; rfl
  · rw [r1]; exact hl
  · rw [r1, moved_seq]
  · rw [r1]; exact fun e he => hfs e (hT.mem_iff.1 he)

/-- Turning a list. -/
structure Turned (M m : Md) (l k : Nat) : Prop where
  wf : WF m
  isL : m.isL l = true
  seq : m.seq l = (M.seq l).drop k ++ (M.seq l).take k
  fst : ∀ e i, M.fst e = some i → m.fst e = some i
  len : m.len = M.len + 2 * k
def turnC (n t : Nat) : List Cl := (List.range t).flatMap (fun k => [cEnd false 0, cMv 8 (n + 2 * k) 0])
theorem turnC_succ (n t : Nat) : turnC n (t + 1) = turnC n t ++ [cEnd false 0, cMv 8 (n + 2 * t) 0] := by simp [turnC, List.range_succ]
theorem turn_step {M m : Md} {l k most : Nat} (h : Turned M m l k) (hk : k < (M.seq l).length) :
    okFrom most m ([cEnd false 0, cMv 8 (M.len + 2 * k) 0].map (onL l)) = true ∧ Turned M (runFrom m ([cEnd false 0, cMv 8 (M.len + 2 * k) 0].map (onL l))) l (k + 1) := by
  have e0 : onL l (cEnd false 0) = cEnd false l := rfl
  have p1 := walked_perm_end h.wf false (most := most) h.isL
  have s1 := walk_end h.wf false l
  have w1 := h.wf.step p1
  rw [s1] at w1
  have hd : (M.seq l).drop k = (M.seq l)[k] :: (M.seq l).drop (k + 1) := List.drop_eq_getElem_cons hk
  have hs : m.seq l = (M.seq l)[k] :: ((M.seq l).drop (k + 1) ++ (M.seq l).take k) := by rw [h.seq, hd]; rfl
  have hr : (m.walked (dir false (m.seq l)) 1).ret (M.len + 2 * k) = some (M.seq l)[k] := by
    rw [← h.len]
    simp only [Md.walked]
    rw [if_neg (by omega), if_pos (by omega), Nat.sub_self]
    show (m.seq l)[0]? = _
    rw [hs]; rfl
  have he : (M.seq l)[k] ∈ (m.walked (dir false (m.seq l)) 1).seq l := by show _ ∈ m.seq l; rw [hs]; simp
  have p2 := perm_mv (most := most) (j := 0) (x := 0) w1 (op := 8) (.inr (.inl rfl)) h.isL hr he (fun q => by omega)
  have s2 := mv_step (m := m.walked (dir false (m.seq l)) 1) (j := 0) (x := 0) (op := 8) (.inr (.inl rfl)) hr he (fun q => by omega)
  have w2 := w1.step p2
  have nd := h.wf.nodup l
  rw [hs, List.nodup_cons] at nd
  refine ⟨?_, ?_⟩
  · simp only [List.map_cons, List.map_nil, e0, okFrom, s1, Bool.and_true, Bool.and_eq_true]
    exact ⟨(permitted_iff _ _ _).2 p1, (permitted_iff _ _ _).2 p2⟩
  · simp only [List.map_cons, List.map_nil, e0, runFrom, s1]
    refine ⟨w2, ?_, ?_, ?_, ?_⟩
    · rw [s2]; exact h.isL
    · rw [s2]
      show upd m.seq l _ l = _
      rw [upd_same]
      show ins (posOf 8 0 (rm _ (m.seq l))) _ (rm _ (m.seq l)) = _
      rw [hs, rm_cons_same, rm_none nd.1]
      have : posOf 8 0 ((M.seq l).drop (k + 1) ++ (M.seq l).take k) = ((M.seq l).drop (k + 1) ++ (M.seq l).take k).length := by simp [posOf]
      rw [this, ins_length, List.append_assoc, List.take_succ_eq_append_getElem hk]
    · intro e i q
      rw [s2]
      exact (walked_ext m _ _).fst e i (h.fst e i q)
    · rw [s2]
      show m.len + 1 + 1 = _
      rw [h.len]; omega
theorem turn_all {M : Md} {l most : Nat} (h : WF M) (hl : M.isL l = true) : ∀ t, t ≤ (M.seq l).length → okFrom most M ((turnC M.len t).map (onL l)) = true ∧ Turned M (runFrom M ((turnC M.len t).map (onL l))) l t
  | 0, _ => ⟨rfl, h, hl, by simp [turnC, runFrom], fun _ _ q => q, rfl⟩
  | t + 1, ht => by
    obtain ⟨a, b⟩ := turn_all (most := most) h hl t (by omega)
    obtain ⟨c, d⟩ := turn_step (most := most) b (by omega)
    rw [turnC_succ, List.map_append, okFrom_append, runFrom_append, a]
    exact ⟨by simpa using c, d⟩
theorem rotate_law {ns : List Cl} {l t : Nat} (h : Scened ns l) (ht : t ≤ ((runFrom Md.init ns).seq l).length) :
    Ordered (ns ++ (turnC ns.length t).map (onL l)) l (((runFrom Md.init ns).names ((runFrom Md.init ns).seq l)).drop t ++ ((runFrom Md.init ns).names ((runFrom Md.init ns).seq l)).take t) := by
  have hfs := fun e (he : e ∈ (runFrom Md.init ns).seq l) => scene_fst h he
  have hn := run_init_len ns
  have hok := h.ok; have hw := h.wf; have hl := h.lst
  generalize hM : runFrom Md.init ns = M at *
  obtain ⟨a, b⟩ := turn_all (most := 500) hw hl t ht
  rw [hn] at a b
  have r1 : runFrom Md.init (ns ++ (turnC ns.length t).map (onL l)) = runFrom M ((turnC ns.length t).map (onL l)) := by rw [runFrom_append, hM]
  have e : (M.names (M.seq l)).drop t ++ (M.names (M.seq l)).take t = ((M.seq l).drop t ++ (M.seq l).take t).map (M.name (M.seq l)) := by
    unfold Md.names; rw [List.map_append, List.map_drop, List.map_take]
  rw [e]
  refine ordered_of (M.name (M.seq l)) ?_ ?_ ?_ ?_
  · rw [okFrom_append, hok, hM, a]; rfl
  · rw [r1]; exact b.isL
  · rw [r1]; exact b.seq
  · rw [r1]
    intro e he
    refine b.fst e _ (hfs e ?_)
    rcases List.mem_append.1 he with q | q
    · exact List.mem_of_mem_drop q
    · exact List.mem_of_mem_take q
end Bead
end Go.Proofs.Ytidnmanljdadaaa

/- Plain laws: a list emptied; what is inserted and removed again. No program is in sight here. -/
namespace Go.Proofs.Ytidnmanljdadaaa
namespace Bead

/-- Emptying a list from one end. -/
structure Emptied (M m : Md) (rev : Bool) (l k : Nat) : Prop where
  wf : WF m
  isL : m.isL l = true
  seq : dir rev (m.seq l) = (dir rev (M.seq l)).drop k
  oth : ∀ j, j ≠ l → m.seq j = M.seq j
  val : m.val = M.val
  fst : ∀ e i, M.fst e = some i → m.fst e = some i
  len : m.len = M.len + 2 * k
def emptyC (rev : Bool) (n t : Nat) : List Cl := (List.range t).flatMap (fun k => [cEnd rev 0, cMv 11 (n + 2 * k) 0])
theorem emptyC_succ (rev : Bool) (n t : Nat) : emptyC rev n (t + 1) = emptyC rev n t ++ [cEnd rev 0, cMv 11 (n + 2 * t) 0] := by simp [emptyC, List.range_succ]
theorem emptyC_length (rev : Bool) (n : Nat) : ∀ t, (emptyC rev n t).length = 2 * t
  | 0 => rfl
  | t + 1 => by rw [emptyC_succ, List.length_append, emptyC_length rev n t]; simp; omega
theorem dir_rm (rev : Bool) {e : Nat} {s t : List Nat} (hn : s.Nodup) (h : dir rev s = e :: t) : dir rev (rm e s) = t := by
  have hd : (dir rev s).Nodup := dir_nodup rev hn
  rw [h, List.nodup_cons] at hd
  have : dir rev (rm e s) = rm e (dir rev s) := by
    cases rev
    · rfl
    · simp only [dir, if_true]; unfold rm; rw [List.filter_reverse]
  rw [this, h, rm_cons_same, rm_none hd.1]
theorem empty_step {M m : Md} {rev : Bool} {l k most : Nat} (h : Emptied M m rev l k) (hk : k < (M.seq l).length) :
    okFrom most m ([cEnd rev 0, cMv 11 (M.len + 2 * k) 0].map (onL l)) = true ∧ Emptied M (runFrom m ([cEnd rev 0, cMv 11 (M.len + 2 * k) 0].map (onL l))) rev l (k + 1) ∧
    ∃ a e, (dir rev (M.seq l))[k]? = some e ∧ ansFrom m ([cEnd rev 0, cMv 11 (M.len + 2 * k) 0].map (onL l)) = [a, ⟨-1, 0, M.val e⟩] := by
  have hk' : k < (dir rev (M.seq l)).length := by rw [dir_length]; exact hk
  have e0 : onL l (cEnd rev 0) = cEnd rev l := rfl
  have p1 := walked_perm_end h.wf rev (most := most) h.isL
  have s1 := walk_end h.wf rev l
  have w1 := h.wf.step p1
  rw [s1] at w1
  have hd : (dir rev (M.seq l)).drop k = (dir rev (M.seq l))[k] :: (dir rev (M.seq l)).drop (k + 1) := List.drop_eq_getElem_cons hk'
  have hs : dir rev (m.seq l) = (dir rev (M.seq l))[k] :: (dir rev (M.seq l)).drop (k + 1) := by rw [h.seq, hd]
  have hr : (m.walked (dir rev (m.seq l)) 1).ret (M.len + 2 * k) = some (dir rev (M.seq l))[k] := by
    rw [← h.len]
    simp only [Md.walked]
    rw [if_neg (by omega), if_pos (by omega), Nat.sub_self, hs]; rfl
  have he : (dir rev (M.seq l))[k] ∈ (m.walked (dir rev (m.seq l)) 1).seq l := by
    show _ ∈ m.seq l
    rw [← dir_mem rev, hs]; exact List.mem_cons_self
  have p2 := perm_rem (most := most) (j := 0) w1 (l := l) h.isL hr he
  have s2 := rem_step (m := m.walked (dir rev (m.seq l)) 1) (j := 0) hr he
  have w2 := w1.step p2
  refine ⟨?_, ?_, (m.tell m.len (dir rev (m.seq l))[0]?), (dir rev (M.seq l))[k], List.getElem?_eq_getElem hk', ?_⟩
  · simp only [List.map_cons, List.map_nil, e0, okFrom, s1, Bool.and_true, Bool.and_eq_true]
    exact ⟨(permitted_iff _ _ _).2 p1, (permitted_iff _ _ _).2 p2⟩
  · simp only [List.map_cons, List.map_nil, e0, runFrom, s1]
    refine ⟨w2, ?_, ?_, ?_, ?_, ?_, ?_⟩
    · rw [s2]; exact h.isL
    · rw [s2]
      show dir rev (upd m.seq l _ l) = _
      rw [upd_same]
      exact dir_rm rev (h.wf.nodup l) hs
    · intro j hj
      rw [s2]
      show upd m.seq l _ j = _
      rw [upd_other _ _ hj]
      exact h.oth j hj
    · rw [s2]; exact h.val
    · intro e i q
      rw [s2]
      exact (walked_ext m _ _).fst e i (h.fst e i q)
    · rw [s2]
      show m.len + 1 + 1 = _
      rw [h.len]; omega
  · simp only [List.map_cons, List.map_nil, e0, ansFrom, s1, s2]
    show [_, (⟨-1, 0, m.val _⟩ : An)] = _
    rw [h.val]
theorem empty_all {M : Md} {rev : Bool} {l most : Nat} (h : WF M) (hl : M.isL l = true) : ∀ t, t ≤ (M.seq l).length → okFrom most M ((emptyC rev M.len t).map (onL l)) = true ∧ Emptied M (runFrom M ((emptyC rev M.len t).map (onL l))) rev l t ∧
    ∀ k e, k < t → (dir rev (M.seq l))[k]? = some e → (ansFrom M ((emptyC rev M.len t).map (onL l)))[2 * k + 1]? = some ⟨-1, 0, M.val e⟩
  | 0, _ => ⟨rfl, ⟨h, hl, by simp [emptyC, runFrom], fun _ _ => rfl, rfl, fun _ _ q => q, rfl⟩, fun k _ q => by omega⟩
  | t + 1, ht => by
    obtain ⟨a, b, g⟩ := empty_all (rev := rev) (most := most) h hl t (by omega)
    obtain ⟨c, d, x, y, hy, hxy⟩ := empty_step (most := most) b (by omega)
    rw [emptyC_succ, List.map_append, okFrom_append, runFrom_append, a]
    refine ⟨by simpa using c, d, fun k e hk he => ?_⟩
    rw [ansFrom_append, hxy]
    have hlen : (ansFrom M ((emptyC rev M.len t).map (onL l))).length = 2 * t := by rw [ansFrom_length, List.length_map, emptyC_length]
    by_cases q : k < t
    · rw [List.getElem?_append_left (by omega)]
      exact g k e q he
    · obtain rfl : k = t := by omega
      rw [List.getElem?_append_right (by omega), hlen]
      have : 2 * k + 1 - 2 * k = 1 := by omega
      rw [this]
      rw [hy] at he
      simp at he
      subst he
      rfl
theorem empty_law {ns : List Cl} {l : Nat} (h : Scened ns l) (rev : Bool) : ∀ M N, M = runFrom Md.init ns → N = (M.seq l).length →
    okFrom 500 Md.init (ns ++ (emptyC rev ns.length N).map (onL l)) = true ∧ okFrom 500 Md.init (ns ++ [onL l (cMv 14 0 0)]) = true ∧
    (∀ k, Look k (runFrom Md.init (ns ++ (emptyC rev ns.length N).map (onL l))) (runFrom Md.init (ns ++ [onL l (cMv 14 0 0)]))) ∧
    ∀ k e, (dir rev (M.seq l))[k]? = some e → (ansFrom M ((emptyC rev ns.length N).map (onL l)))[2 * k + 1]? = some ⟨-1, 0, M.val e⟩ := by
  intro M N hM hN
  have hn := run_init_len ns
  have hok := h.ok; have hw := h.wf; have hl := h.lst; have hnd := h.named
  rw [← hM] at hn hw hl hnd
  obtain ⟨a, b, g⟩ := empty_all (rev := rev) (most := 500) hw hl N (by omega)
  rw [hn] at a b g
  have pI : Permitted 500 M (onL l (cMv 14 0 0)) := by
    have h1 := hw.isl l hl
    refine ⟨by simp [onL, cMv], by simp [onL, cMv], fun _ _ => ⟨by simp [onL], by simp only [onL]; omega, by simpa [onL] using hl⟩, fun q => ?_, fun q => ?_, fun q => ?_, fun q => ?_, fun q => ?_, fun q => ?_, fun q => ?_⟩
    all_goals simp [onL, cMv] at q
  have sI : (M.step (onL l (cMv 14 0 0))).1 = M.grow.clear l := by
    simp [Md.step, Md.change, onL, cMv]
  refine ⟨?_, ?_, fun k => ?_, fun k e he => ?_⟩
  · rw [okFrom_append, hok, ← hM, a]; rfl
  · rw [okFrom_append, hok, ← hM]
    simp only [okFrom, Bool.and_true, Bool.true_and]
    exact (permitted_iff _ _ _).2 pI
  · rw [runFrom_append, runFrom_append, ← hM]
    simp only [runFrom, sI]
    have hse : (runFrom M ((emptyC rev ns.length N).map (onL l))).seq l = [] := by
      have q := b.seq
      rw [List.drop_of_length_le (by rw [dir_length]; omega)] at q
      cases rev
      · exact q
      · simpa [dir] using q
    by_cases q : k = l
    · subst q
      refine ⟨?_, fun e he => ?_, fun e he => ?_⟩
      · rw [hse]; show upd _ _ _ _ = _; rw [upd_same]
      · rw [hse] at he; simp at he
      · rw [hse] at he; simp at he
    · have e1 : (runFrom M ((emptyC rev ns.length N).map (onL l))).seq k = M.seq k := b.oth k q
      refine ⟨?_, fun e he => ?_, fun e he => ?_⟩
      · rw [e1]; show upd _ _ _ _ = _; rw [upd_other _ _ q]; rfl
      · rw [b.val]; rfl
      · rw [e1] at he
        obtain ⟨i, hi⟩ := hnd k e he
        exact ⟨i, b.fst e i hi, hi⟩
  · have hk := (List.getElem?_eq_some_iff.1 he).1
    rw [dir_length] at hk
    exact g k e (by omega) he

/-- What is pushed or inserted is read, and removed again. -/
theorem pushed_law {ns : List Cl} {l : Nat} (h : Scened ns l) {op : Int} (hop : op = 7 ∨ op = 8 ∨ op = 9 ∨ op = 10) {x j : Nat} {v : Vl} (hx : op = 9 ∨ op = 10 → (runFrom Md.init ns).ret j = some x ∧ x ∈ (runFrom Md.init ns).seq l) : ∀ M, M = runFrom Md.init ns →
    okFrom 501 Md.init (ns ++ [cIns (op - 4) j v, cGet ns.length, cMv 11 ns.length 0].map (onL l)) = true ∧
    (∀ k, Look k (runFrom Md.init (ns ++ [cIns (op - 4) j v, cGet ns.length, cMv 11 ns.length 0].map (onL l))) M) ∧
    ∃ a, ansFrom M ([cIns (op - 4) j v, cGet ns.length, cMv 11 ns.length 0].map (onL l)) = [a, ⟨-1, 0, canon v⟩, ⟨-1, 0, canon v⟩] := by
  intro M hM
  have ok1 : okFrom 501 Md.init ns = true := ok_mono (by decide) _ h.ok
  have hc5 := run_cnt_le ns h.ok (by simp [Md.init])
  have hn := run_init_len ns
  have hw := h.wf; have hl := h.lst; have hnd := h.named
  rw [← hM] at hn hw hl hnd hc5 hx
  have p1 := perm_ins hw hop hl (v := v) (j := j) (x := x) hx (most := 501) (by omega)
  have i1 := ins_step (m := M) (x := x) (l := l) hop (c := onL l (cIns (op - 4) j v)) rfl (by simp [onL]) (fun q => by simpa [onL, cIns] using hx q)
  have w1 := hw.step p1
  have hA : ∃ a m1, M.step (onL l (cIns (op - 4) j v)) = (m1, a) := ⟨_, _, rfl⟩
  obtain ⟨a, m1, hst⟩ := hA
  rw [hst] at i1 w1
  simp only at i1 w1
  have hv : (onL l (cIns (op - 4) j v)).v = v := rfl
  rw [hv] at i1
  have r1 : m1.ret ns.length = some M.cnt := by rw [i1.ret, hn, upd_same]
  have hin : M.cnt ∈ m1.seq l := by rw [i1.seq, upd_same]; exact mem_ins.2 (.inl rfl)
  have hcn : M.cnt ∉ M.seq l := fun q => by have := hw.lt q; omega
  have val1 : m1.val M.cnt = canon v := by rw [i1.val, upd_same]
  have pG : Permitted 501 m1 (onL l (cGet ns.length)) := by
    have q := perm_get (most := 501) w1 r1
    obtain ⟨a1, a2, a3, a4, a5, a6, a7, a8, a9, a10⟩ := q
    refine ⟨a1, a2, fun q1 q2 => ?_, a4, a5, a6, fun _ => ?_, fun q => ?_, a9, a10⟩
    · simp [onL, cGet] at q2
    · unfold Md.stale
      simp only [onL, cGet, Int.toNat_natCast, r1, clr_in w1 hin]
    · simp [onL, cGet] at q
  have sG : m1.step (onL l (cGet ns.length)) = (m1.grow, ⟨-1, 0, canon v⟩) := by
    rw [step_20 m1 (c := onL l (cGet ns.length)) rfl (e := M.cnt) (by simpa [onL, cGet] using r1), val1]
  have w2 : WF m1.grow := w1.grow
  have p3 := perm_rem (m := m1.grow) w2 (l := l) (i := ns.length) (e := M.cnt) (j := 0) (most := 501) (by show m1.isL l = true; rw [i1.isL]; exact hl) r1 hin
  have s3 := rem_step (m := m1.grow) (l := l) (j := 0) r1 hin
  have s3' : m1.grow.step (onL l (cMv 11 ns.length 0)) = (m1.grow.grow.drop l M.cnt, ⟨-1, 0, canon v⟩) := by
    rw [s3]; show (_, (⟨-1, 0, m1.val M.cnt⟩ : An)) = _; rw [val1]
  refine ⟨?_, fun k => ?_, a, ?_⟩
  · rw [okFrom_append, ok1, ← hM]
    simp only [List.map_cons, List.map_nil, okFrom, hst, sG, Bool.and_true, Bool.true_and, Bool.and_eq_true]
    exact ⟨(permitted_iff _ _ _).2 p1, (permitted_iff _ _ _).2 pG, (permitted_iff _ _ _).2 p3⟩
  · rw [runFrom_append, ← hM]
    simp only [List.map_cons, List.map_nil, runFrom, hst, sG, s3']
    have es : (m1.grow.grow.drop l M.cnt).seq = M.seq := by
      show upd m1.seq l (rm M.cnt (m1.seq l)) = _
      rw [i1.seq, upd_same, rm_ins hcn, upd_upd, upd_self]
    refine ⟨by rw [es], fun e he => ?_, fun e he => ?_⟩
    · rw [es] at he
      show _ = m1.val e
      rw [i1.val, upd_other _ _ (by have := hw.lt he; omega)]
    · rw [es] at he
      obtain ⟨i, hi⟩ := hnd k e he
      refine ⟨i, ?_, hi⟩
      show m1.fst e = _
      rw [i1.fst, upd_other _ _ (by have := hw.lt he; omega)]
      exact hi
  · simp only [List.map_cons, List.map_nil, ansFrom, hst, sG, s3']
end Bead
end Go.Proofs.Ytidnmanljdadaaa

/- Plain laws: pushing a list, and pushing its values one by one; how a call changes the length. No program is in sight here. -/
namespace Go.Proofs.Ytidnmanljdadaaa
namespace Bead

def cLs (op : Int) (o : Nat) : Cl := ⟨op, 0, o, 0, 0, Vl.zero⟩
section
variable {m : Md} {l o : Nat}
theorem perm_ls_inv {most : Nat} {op : Int} (hop : op = 12 ∨ op = 13) (hp : Permitted most m (onL l (cLs op o))) : m.isL l = true ∧ m.isL o = true ∧ m.cnt + (m.seq o).length ≤ most := by
  obtain ⟨_, _, h1⟩ := hp.list (by show 3 ≤ op; omega) (by show op ≤ 17; omega)
  obtain ⟨_, _, h2⟩ := hp.other (by show op = 12 ∨ op = 13; exact hop)
  have h3 := hp.room (by show op = 12 ∨ op = 13; exact hop)
  simp only [onL, cLs, Int.toNat_natCast] at h1 h2 h3
  exact ⟨h1, h2, h3⟩
theorem perm_ls (h : WF m) {most : Nat} {op : Int} (hop : op = 12 ∨ op = 13) (hl : m.isL l = true) (ho : m.isL o = true) (hm : m.cnt + (m.seq o).length ≤ most) : Permitted most m (onL l (cLs op o)) := by
  have h1 := h.isl l hl
  have h2 := h.isl o ho
  refine ⟨by show 0 ≤ op; omega, by show op < 22; omega, fun _ _ => ⟨by simp [onL], by simp only [onL]; omega, by simpa [onL] using hl⟩, fun _ => ⟨by simp [onL, cLs], by simp only [onL, cLs]; omega, by simpa [onL, cLs] using ho⟩, fun q => ?_, fun q => ?_, fun q => ?_, fun q => ?_, fun _ => by simpa [onL, cLs] using hm, fun q => ?_⟩
  · have : (7 ≤ op ∧ op ≤ 11) ∨ 18 ≤ op := q
    omega
  · have : op = 5 ∨ op = 6 ∨ op = 9 ∨ op = 10 := q
    omega
  · have : (7 ≤ op ∧ op ≤ 11) ∨ 18 ≤ op := q
    omega
  · have : op = 5 ∨ op = 6 ∨ op = 9 ∨ op = 10 := q
    omega
  · have : op = 2 ∨ op = 3 ∨ op = 4 ∨ op = 5 ∨ op = 6 := q
    omega
theorem ls_step {op : Int} (hop : op = 12 ∨ op = 13) : m.step (onL l (cLs op o)) = (m.grow.copies (onL l (cLs op o)), An.no) := by
  rcases hop with rfl | rfl <;> simp [Md.step, Md.change, onL, cLs]
/-- What a list that is pushed leaves. -/
structure Copied (m m' : Md) (l o : Nat) (front : Bool) : Prop where
  seq : m'.seq = upd m.seq l (if front then List.range' m.cnt (m.seq o).length ++ m.seq l else m.seq l ++ List.range' m.cnt (m.seq o).length)
  old : ∀ e, e < m.cnt → m'.val e = m.val e
  new : (List.range' m.cnt (m.seq o).length).map m'.val = (m.seq o).map m.val
  fst : m'.fst = m.fst
  isL : m'.isL = m.isL
  ret : m'.ret = m.ret
  len : m'.len = m.len + 1
  cnt : m'.cnt = m.cnt + (m.seq o).length
theorem copied {op : Int} (hop : op = 12 ∨ op = 13) : Copied m (m.step (onL l (cLs op o))).1 l o (decide (op = 13)) := by
  rw [ls_step hop]
  refine ⟨?_, fun e he => ?_, ?_, rfl, rfl, rfl, rfl, ?_⟩
  · show upd m.seq _ _ = _
    rcases hop with rfl | rfl <;> simp [onL, cLs, Md.grow]
  · show (if _ then _ else m.val e) = _
    rw [if_neg]
    show ¬ (m.cnt ≤ e ∧ _)
    omega
  · apply List.ext_getElem?
    intro k
    by_cases q : k < (m.seq o).length
    · rw [List.getElem?_map, List.getElem?_map, List.getElem?_eq_getElem (by simpa using q), List.getElem?_eq_getElem q, List.getElem_range']
      simp only [Option.map_some, Option.some.injEq]
      show (if m.cnt ≤ m.cnt + 1 * k ∧ m.cnt + 1 * k < m.cnt + (m.seq ((o : Int)).toNat).length then m.val ((m.seq ((o : Int)).toNat).getD (m.cnt + 1 * k - m.cnt) 0) else _) = _
      rw [Int.toNat_natCast, if_pos (by omega), show m.cnt + 1 * k - m.cnt = k by omega, List.getD_eq_getElem?_getD, List.getElem?_eq_getElem q]; rfl
    · rw [List.getElem?_eq_none (by simpa using Nat.le_of_not_lt q), List.getElem?_eq_none (by simpa using Nat.le_of_not_lt q)]
  · show m.cnt + (m.seq ((o : Int)).toNat).length = _
    rw [Int.toNat_natCast]
end

theorem snoc_rec {α : Type} {P : List α → Prop} (h0 : P []) (h1 : ∀ l a, P l → P (l ++ [a])) (l : List α) : P l := by
  have h : ∀ r : List α, P r.reverse := fun r => by
    induction r with
    | nil => exact h0
    | cons a r ih => rw [List.reverse_cons]; exact h1 _ _ ih
  have q := h l.reverse
  rwa [List.reverse_reverse] at q
/-- Values pushed one by one. -/
structure Pushed (M m : Md) (l : Nat) (front : Bool) (vs : List Vl) : Prop where
  wf : WF m
  isL : m.isL l = true
  cnt : m.cnt = M.cnt + vs.length
  seq : m.seq = upd M.seq l (if front then (List.range' M.cnt vs.length).reverse ++ M.seq l else M.seq l ++ List.range' M.cnt vs.length)
  old : ∀ e, e < M.cnt → m.val e = M.val e
  new : (List.range' M.cnt vs.length).map m.val = vs.map canon
theorem pushed_all {l most : Nat} (front : Bool) {M : Md} (h : WF M) (hl : M.isL l = true) : ∀ (vs : List Vl), M.cnt + vs.length ≤ most → okFrom most M ((vs.map fun v => cIns (if front then 3 else 4) 0 v).map (onL l)) = true ∧ Pushed M (runFrom M ((vs.map fun v => cIns (if front then 3 else 4) 0 v).map (onL l))) l front vs := by
  intro vs
  induction vs using snoc_rec with
  | h0 =>
    intro _
    refine ⟨rfl, h, hl, rfl, ?_, fun _ _ => rfl, rfl⟩
    cases front <;> simp [runFrom, upd_self]
  | h1 vs v ih =>
    intro hm
    rw [List.length_append, List.length_singleton] at hm
    obtain ⟨a, b⟩ := ih (by omega)
    rw [List.map_append, List.map_append, okFrom_append, runFrom_append, a]
    generalize runFrom M ((vs.map fun v => cIns (if front then 3 else 4) 0 v).map (onL l)) = X at b
    have hop : (if front then (7 : Int) else 8) = 7 ∨ (if front then (7 : Int) else 8) = 8 ∨ (if front then (7 : Int) else 8) = 9 ∨ (if front then (7 : Int) else 8) = 10 := by cases front <;> simp
    have ho4 : (if front then (7 : Int) else 8) - 4 = if front then 3 else 4 := by cases front <;> rfl
    have hno : ¬ ((if front then (7 : Int) else 8) = 9 ∨ (if front then (7 : Int) else 8) = 10) := by cases front <;> simp
    have p := perm_ins b.wf hop b.isL (v := v) (j := 0) (x := 0) (fun q => absurd q hno) (most := most) (by rw [b.cnt]; omega)
    have i := ins_step (m := X) (x := 0) (l := l) hop (c := onL l (cIns ((if front then (7 : Int) else 8) - 4) 0 v)) rfl (by simp [onL]) (fun q => absurd q hno)
    have w := b.wf.step p
    rw [ho4] at p i w
    refine ⟨?_, ?_⟩
    · simp only [List.map_cons, List.map_nil, okFrom, Bool.and_true, Bool.true_and]
      exact (permitted_iff _ _ _).2 p
    · simp only [List.map_cons, List.map_nil, runFrom]
      generalize (X.step (onL l (cIns (if front then 3 else 4) 0 v))).1 = Y at i w
      have hrg : List.range' M.cnt (vs.length + 1) = List.range' M.cnt vs.length ++ [M.cnt + vs.length] := by
        rw [List.range'_concat]; simp
      refine ⟨w, by rw [i.isL]; exact b.isL, by rw [i.cnt, b.cnt, List.length_append, List.length_singleton]; omega, ?_, fun e he => ?_, ?_⟩
      · rw [i.seq, b.seq, upd_upd, upd_same, b.cnt, List.length_append, List.length_singleton, hrg]
        cases front
        · have : posOf 8 0 (M.seq l ++ List.range' M.cnt vs.length) = (M.seq l ++ List.range' M.cnt vs.length).length := by simp [posOf]
          simp only [Bool.false_eq_true, if_false, this, ins_length, List.append_assoc]
        · simp [posOf, ins]
      · rw [i.val, upd_other _ _ (by rw [b.cnt]; omega)]; exact b.old e he
      · rw [List.length_append, List.length_singleton, hrg, List.map_append, List.map_append, i.val, b.cnt]
        congr 1
        · rw [← b.new]
          refine List.map_congr_left (fun e he => ?_)
          rw [upd_other _ _ (by have := List.mem_range'.1 he; obtain ⟨k, hk, rfl⟩ := this; omega)]
        · simp [upd_same, onL, cIns]

/-- Pushing a list, and pushing its values: the same values in all lists. -/
theorem push_each {ns : List Cl} {l o : Nat} (h : Scened ns l) (front : Bool) : ∀ M, M = runFrom Md.init ns → okFrom 500 Md.init (ns ++ [onL l (cLs 12 o)]) = true →
    okFrom 500 Md.init (ns ++ [onL l (cLs (if front then 13 else 12) o)]) = true ∧
    okFrom 500 Md.init (ns ++ ((if front then ((M.seq o).map M.val).reverse else (M.seq o).map M.val).map fun v => cIns (if front then 3 else 4) 0 v).map (onL l)) = true ∧
    ∀ k, ((runFrom Md.init (ns ++ [onL l (cLs (if front then 13 else 12) o)])).seq k).map (runFrom Md.init (ns ++ [onL l (cLs (if front then 13 else 12) o)])).val =
      ((runFrom Md.init (ns ++ ((if front then ((M.seq o).map M.val).reverse else (M.seq o).map M.val).map fun v => cIns (if front then 3 else 4) 0 v).map (onL l))).seq k).map (runFrom Md.init (ns ++ ((if front then ((M.seq o).map M.val).reverse else (M.seq o).map M.val).map fun v => cIns (if front then 3 else 4) 0 v).map (onL l))).val := by
  intro M hM hok12
  have hok := h.ok; have hw := h.wf; have hl := h.lst
  rw [← hM] at hw hl
  rw [okFrom_append, hok, ← hM] at hok12
  simp only [okFrom, Bool.and_true, Bool.true_and] at hok12
  obtain ⟨_, ho, hroom⟩ := perm_ls_inv (.inl rfl) ((permitted_iff _ _ _).1 hok12)
  have hop : (if front then (13 : Int) else 12) = 12 ∨ (if front then (13 : Int) else 12) = 13 := by cases front <;> simp
  have p := perm_ls hw (op := if front then 13 else 12) hop hl ho hroom
  have cp := copied (m := M) (l := l) (o := o) hop
  have hdf : decide ((if front then (13 : Int) else 12) = 13) = front := by cases front <;> simp
  rw [hdf] at cp
  have hlen : (if front then ((M.seq o).map M.val).reverse else (M.seq o).map M.val).length = (M.seq o).length := by cases front <;> simp
  obtain ⟨a, b⟩ := pushed_all (most := 500) front hw hl (if front then ((M.seq o).map M.val).reverse else (M.seq o).map M.val) (by rw [hlen]; exact hroom)
  refine ⟨?_, ?_, fun k => ?_⟩
  · rw [okFrom_append, hok, ← hM]
    simp only [okFrom, Bool.and_true, Bool.true_and]
    exact (permitted_iff _ _ _).2 p
  · rw [okFrom_append, hok, ← hM, a]; rfl
  · rw [runFrom_append, runFrom_append, ← hM]
    simp only [runFrom]
    generalize (M.step (onL l (cLs (if front then 13 else 12) o))).1 = X at cp
    generalize runFrom M (((if front then ((M.seq o).map M.val).reverse else (M.seq o).map M.val).map fun v => cIns (if front then 3 else 4) 0 v).map (onL l)) = Y at b
    rw [cp.seq, b.seq, hlen]
    have oldeq : ∀ j, (M.seq j).map X.val = (M.seq j).map Y.val := fun j => List.map_congr_left (fun e he => by rw [cp.old e (hw.lt he), b.old e (hw.lt he)])
    have can : (((M.seq o).map M.val).map canon) = (M.seq o).map M.val := by
      rw [List.map_map]
      exact List.map_congr_left (fun e _ => hw.can e)
    by_cases q : k = l
    · subst q
      rw [upd_same, upd_same]
      have nb := b.new
      rw [hlen] at nb
      cases front
      · simp only [Bool.false_eq_true, if_false] at nb ⊢
        rw [List.map_append, List.map_append, oldeq, cp.new, nb, can]
      · simp only [if_true] at nb ⊢
        rw [List.map_append, List.map_append, oldeq, cp.new, List.map_reverse, nb, List.map_reverse, can, List.reverse_reverse]
    · rw [upd_other _ _ q, upd_other _ _ q]; exact oldeq k

/-- A list that is pushed leaves all else as it was. -/
theorem push_keeps {ns : List Cl} {l o : Nat} (h : Scened ns l) (front : Bool) : ∀ M A, M = runFrom Md.init ns → A = runFrom Md.init (ns ++ [onL l (cLs (if front then 13 else 12) o)]) → okFrom 500 Md.init (ns ++ [onL l (cLs 12 o)]) = true →
    okFrom 500 Md.init (ns ++ [onL l (cLs (if front then 13 else 12) o)]) = true ∧ M.isL o = true ∧ (∀ k, k ≠ l → Look k M A) ∧
    ∃ F : List Nat, F.length = (M.seq o).length ∧ (∀ i ∈ F, ns.length < i) ∧ A.names (A.seq l) = if front then F ++ M.names (M.seq l) else M.names (M.seq l) ++ F := by
  intro M A hM hA hok12
  have hok := h.ok; have hw := h.wf; have hl := h.lst; have hnd := h.named
  have hfs := fun e (he : e ∈ (runFrom Md.init ns).seq l) => scene_fst h he
  have hn := run_init_len ns
  rw [← hM] at hw hl hnd hn hfs
  rw [okFrom_append, hok, ← hM] at hok12
  simp only [okFrom, Bool.and_true, Bool.true_and] at hok12
  obtain ⟨_, ho, hroom⟩ := perm_ls_inv (.inl rfl) ((permitted_iff _ _ _).1 hok12)
  have hop : (if front then (13 : Int) else 12) = 12 ∨ (if front then (13 : Int) else 12) = 13 := by cases front <;> simp
  have p := perm_ls hw (op := if front then 13 else 12) hop hl ho hroom
  have cp := copied (m := M) (l := l) (o := o) hop
  have hdf : decide ((if front then (13 : Int) else 12) = 13) = front := by cases front <;> simp
  rw [hdf] at cp
  have eA : A = (M.step (onL l (cLs (if front then 13 else 12) o))).1 := by rw [hA, runFrom_append, ← hM]; rfl
  rw [← eA] at cp
  refine ⟨?_, ho, fun k hk => ?_, (List.range' M.cnt (M.seq o).length).map (A.name (A.seq l)), by simp, fun i hi => ?_, ?_⟩
  · rw [okFrom_append, hok, ← hM]
    simp only [okFrom, Bool.and_true, Bool.true_and]
    exact (permitted_iff _ _ _).2 p
  · refine ⟨by rw [cp.seq, upd_other _ _ hk], fun e he => cp.old e (hw.lt he), fun e he => ?_⟩
    obtain ⟨i, hi⟩ := hnd k e he
    exact ⟨i, hi, by rw [cp.fst]; exact hi⟩
  · obtain ⟨e, he, rfl⟩ := List.mem_map.1 hi
    obtain ⟨k, hk, rfl⟩ := List.mem_range'.1 he
    unfold Md.name
    rw [cp.fst, (hw.out _ (by omega)).2.2, cp.len, hn]
    simp only [Option.getD_none]
    omega
  · have e1 : (M.seq l).map (A.name (A.seq l)) = M.names (M.seq l) := by
      unfold Md.names
      refine List.map_congr_left (fun e he => ?_)
      unfold Md.name
      rw [cp.fst, hfs e he]; rfl
    show (A.seq l).map (A.name (A.seq l)) = _
    conv => lhs; rw [show (A.seq l).map (A.name (A.seq l)) = (A.seq l).map (A.name (A.seq l)) from rfl]; arg 2; rw [cp.seq, upd_same]
    cases front
    · simp only [Bool.false_eq_true, if_false, List.map_append, e1]
    · simp only [if_true, List.map_append, e1]

/-- How a call changes the length of its list. -/
structure LenLaw (m : Md) (l : Nat) (c : Cl) : Prop where
  push : c.op = 3 ∨ c.op = 4 → ((m.step c).1.seq l).length = (m.seq l).length + 1
  insIn : c.op = 5 ∨ c.op = 6 → ∀ x, m.ret c.mark.toNat = some x → x ∈ m.seq l → ((m.step c).1.seq l).length = (m.seq l).length + 1
  insOut : c.op = 5 ∨ c.op = 6 → ∀ x, m.ret c.mark.toNat = some x → x ∉ m.seq l → ((m.step c).1.seq l).length = (m.seq l).length
  remIn : c.op = 11 → ∀ x, m.ret c.elem.toNat = some x → x ∈ m.seq l → ((m.step c).1.seq l).length + 1 = (m.seq l).length
  remOut : c.op = 11 → ∀ x, m.ret c.elem.toNat = some x → x ∉ m.seq l → ((m.step c).1.seq l).length = (m.seq l).length
  lst : c.op = 12 ∨ c.op = 13 → ((m.step c).1.seq l).length = (m.seq l).length + (m.seq c.other.toNat).length
  init : c.op = 14 → ((m.step c).1.seq l).length = 0
  same : (7 ≤ c.op ∧ c.op ≤ 10) ∨ (15 ≤ c.op ∧ c.op ≤ 19) → ((m.step c).1.seq l).length = (m.seq l).length
theorem ins_len {k e : Nat} {s : List Nat} : (ins k e s).length = s.length + 1 := by
  unfold ins
  rw [List.length_append, List.length_cons, ← Nat.add_assoc, ← List.length_append, List.take_append_drop]
theorem answer_seq (m : Md) (i : Nat) (o : Option Nat) : (m.answer i o).1.seq = m.seq := by cases o <;> rfl
theorem len_law {m : Md} {l most : Nat} {c : Cl} (h : WF m) (hp : Permitted most m c) (hl : c.list.toNat = l) : LenLaw m l c := by
  refine ⟨fun q => ?_, fun q x hx hm => ?_, fun q x hx hm => ?_, fun q x hx hm => ?_, fun q x hx hm => ?_, fun q => ?_, fun q => ?_, fun q => ?_⟩
  · rcases q with q | q
    · rw [step_3 m q, answer_seq, hl]; show List.length (upd _ _ _ _) = _; rw [upd_same]; exact ins_len (k := 0)
    · rw [step_4 m q, answer_seq, hl]; show List.length (upd _ _ _ _) = _; rw [upd_same]; exact ins_len (k := (m.seq l).length)
  · have hx' : m.grow.ret c.mark.toNat = some x := hx
    have hm' : x ∈ m.grow.seq c.list.toNat := by rw [hl]; exact hm
    rcases q with q | q
    · rw [step_5 m q]; unfold Md.insert; rw [hx']; simp only [if_pos hm']; rw [answer_seq, hl]; show List.length (upd _ _ _ _) = _; rw [upd_same]; exact ins_len (k := _) (s := m.seq l)
    · rw [step_6 m q]; unfold Md.insert; rw [hx']; simp only [if_pos hm']; rw [answer_seq, hl]; show List.length (upd _ _ _ _) = _; rw [upd_same]; exact ins_len (k := _) (s := m.seq l)
  · have hx' : m.grow.ret c.mark.toNat = some x := hx
    have hm' : x ∉ m.grow.seq c.list.toNat := by rw [hl]; exact hm
    rcases q with q | q
    · rw [step_5 m q]; unfold Md.insert; rw [hx']; simp only [if_neg hm']; rfl
    · rw [step_6 m q]; unfold Md.insert; rw [hx']; simp only [if_neg hm']; rfl
  · have hx' : m.grow.ret c.elem.toNat = some x := hx
    have hm' : x ∈ m.grow.seq c.list.toNat := by rw [hl]; exact hm
    rw [step_11 m q]; unfold Md.remove; rw [hx']; simp only [if_pos hm']; rw [hl]
    show List.length (upd _ _ _ _) + 1 = _
    rw [upd_same]; exact rm_length (h.nodup l) hm
  · have hx' : m.grow.ret c.elem.toNat = some x := hx
    have hm' : x ∉ m.grow.seq c.list.toNat := by rw [hl]; exact hm
    rw [step_11 m q]; unfold Md.remove; rw [hx']; simp only [if_neg hm']; rfl
  · have e : m.step c = (m.grow.copies c, An.no) := by rcases q with q | q <;> simp [Md.step, Md.change, q]
    rw [e]
    show List.length (upd _ _ _ _) = _
    rw [hl, upd_same]
    rcases q with q | q <;> simp [q, Md.grow] <;> omega
  · rw [step_14 m q, hl]; show List.length (upd _ _ _ _) = _; rw [upd_same]; rfl
  · rcases (show (c.op = 7 ∨ c.op = 8 ∨ c.op = 9 ∨ c.op = 10) ∨ c.op = 15 ∨ c.op = 16 ∨ c.op = 17 ∨ c.op = 18 ∨ c.op = 19 by omega) with q | q | q | q | q | q
    · obtain ⟨_, _, e, he⟩ := hp.elem (by omega)
      obtain ⟨s, h1, _, h3⟩ := mv_any h q hl he (fun z => by obtain ⟨_, _, x, hx⟩ := hp.mark (by omega); exact ⟨x, hx⟩)
      rw [h1]; show List.length (upd _ _ _ _) = _; rw [upd_same]; exact h3.length_eq
    · rw [step_15 m q, answer_seq]; rfl
    · rw [step_16 m q, answer_seq]; rfl
    · rw [step_17 m q]; rfl
    · obtain ⟨_, _, e, he⟩ := hp.elem (by omega)
      rw [step_18 m q he, answer_seq]; rfl
    · obtain ⟨_, _, e, he⟩ := hp.elem (by omega)
      rw [step_19 m q he, answer_seq]; rfl
end Bead
end Go.Proofs.Ytidnmanljdadaaa

/- Plain laws: any moves are undone. No program is in sight here. -/
namespace Go.Proofs.Ytidnmanljdadaaa
namespace Bead

def Md.reseq (m : Md) (n : Nat) (s : Nat → List Nat) : Md := { m with len := m.len + n, seq := s }
theorem reseq_zero (m : Md) : m.reseq 0 m.seq = m := rfl
/-- The call that undoes a move. -/
def undoOf (m : Md) (c : Cl) : List Cl :=
  match m.ret c.elem.toNat with
  | none => []
  | some e =>
    if e ∈ m.seq c.list.toNat then
      (if (m.seq c.list.toNat).idxOf e = 0 then [onL c.list.toNat (cMv 7 c.elem.toNat 0)]
       else [onL c.list.toNat (cMv 10 c.elem.toNat ((m.names (m.seq c.list.toNat)).getD ((m.seq c.list.toNat).idxOf e - 1) 0))])
    else []
def undosOf (m : Md) : List Cl → List Cl
  | [] => []
  | c :: cs => undoOf m c ++ undosOf (m.step c).1 cs
theorem undosOf_snoc : ∀ (cs : List Cl) (m : Md) (c : Cl), undosOf m (cs ++ [c]) = undosOf m cs ++ undoOf (runFrom m cs) c
  | [], m, c => by simp [undosOf, runFrom]
  | d :: cs, m, c => by simp only [List.cons_append, undosOf, runFrom, undosOf_snoc cs, List.append_assoc]
theorem undoOf_short (m : Md) (c : Cl) : undoOf m c = [] ∨ ∃ x, undoOf m c = [x] := by
  unfold undoOf
  split
  · exact .inl rfl
  · split
    · split
      · exact .inr ⟨_, rfl⟩
      · exact .inr ⟨_, rfl⟩
    · exact .inl rfl
theorem undo_step {M : Md} {n most : Nat} {s : Nat → List Nat} {c : Cl} (h : WF (M.reseq n s)) (hn : ∀ k e, e ∈ s k → ∃ i, M.fst e = some i) (hp : Permitted most (M.reseq n s) c) (hop : c.op = 7 ∨ c.op = 8 ∨ c.op = 9 ∨ c.op = 10) :
    ∃ s' : Nat → List Nat, ((M.reseq n s).step c).1 = M.reseq (n + 1) s' ∧ (∀ k e, e ∈ s' k ↔ e ∈ s k) ∧
      ∀ n', WF (M.reseq n' s') → okFrom most (M.reseq n' s') (undoOf (M.reseq n s) c) = true ∧ runFrom (M.reseq n' s') (undoOf (M.reseq n s) c) = M.reseq (n' + (undoOf (M.reseq n s) c).length) s := by
  obtain ⟨_, _, e, he⟩ := hp.elem (by omega)
  obtain ⟨_, _, hL⟩ := hp.list (by omega) (by omega)
  generalize hl : c.list.toNat = l at *
  generalize hi : c.elem.toNat = i at *
  have hr : M.ret i = some e := he
  have hm := mv_any h hop hl (by rw [hi]; exact he) (fun z => by obtain ⟨_, _, x, hx⟩ := hp.mark (by omega); exact ⟨x, hx⟩)
  obtain ⟨t, h1, h2, h3⟩ := hm
  refine ⟨upd s l t, by rw [h1]; rfl, fun k x => ?_, fun n' hw => ?_⟩
  · by_cases q : k = l
    · subst q; rw [upd_same]; exact h3.mem_iff
    · rw [upd_other _ _ q]
  · have nd := h.nodup l
    have nd' : (s l).Nodup := nd
    have het : e ∈ s l → e ∈ (M.reseq n' (upd s l t)).seq l := fun q => by show e ∈ upd s l t l; rw [upd_same]; exact h3.mem_iff.2 q
    have rmt : rm e ((M.reseq n' (upd s l t)).seq l) = rm e (s l) := by show rm e (upd s l t l) = _; rw [upd_same]; exact h2
    have back : ∀ y : List Nat, y = s l → (M.reseq n' (upd s l t)).grow.setSeq l y = M.reseq (n' + 1) s := fun y hy => by
      subst hy
      show Md.mk _ _ _ (upd (upd s l t) l (s l)) _ _ _ _ _ = _
      rw [upd_upd, upd_self]; rfl
    by_cases hin : e ∈ s l
    · have hin' : e ∈ (M.reseq n s).seq l := hin
      obtain ⟨u, z, hs, hu, hz, hrm, hidx⟩ := part_at nd' hin
      by_cases h0 : (s l).idxOf e = 0
      · have eu : undoOf (M.reseq n s) c = [onL l (cMv 7 i 0)] := by
          unfold undoOf
          rw [hi, he, hl]
          have h0' : ((M.reseq n s).seq l).idxOf e = 0 := h0
          simp only [if_pos hin', if_pos h0']
        have p := perm_mv (most := most) (j := 0) (x := 0) hw (op := 7) (.inl rfl) hL (show (M.reseq n' (upd s l t)).ret i = some e from hr) (het hin) (fun q => by omega)
        have st := mv_step (m := M.reseq n' (upd s l t)) (j := 0) (x := 0) (op := 7) (.inl rfl) (show (M.reseq n' (upd s l t)).ret i = some e from hr) (het hin) (fun q => by omega)
        have hu0 : u = [] := List.eq_nil_of_length_eq_zero (by omega)
        rw [eu]
        refine ⟨by simp only [okFrom, Bool.and_true]; exact (permitted_iff _ _ _).2 p, ?_⟩
        simp only [runFrom, st, List.length_singleton]
        refine back _ ?_
        rw [rmt, hrm, hs, hu0]
        simp [posOf, ins]
      · obtain ⟨u', p, rfl⟩ : ∃ u' p, u = u' ++ [p] := ⟨u.dropLast, u.getLast (by intro q; subst q; exact h0 (by simpa using hidx)), (List.dropLast_concat_getLast _).symm⟩
        have hpm : p ∈ s l := by rw [hs]; simp
        obtain ⟨k, hk⟩ := hn l p hpm
        have hpe : p ≠ e := fun q => hu (by simp [q])
        have hrk : M.ret k = some p := (h.fst1 p k hk).1
        have hget : (s l)[(s l).idxOf e - 1]? = some p := by
          rw [hidx, hs]
          simp
        have hnm : ((M.reseq n s).names ((M.reseq n s).seq l)).getD ((s l).idxOf e - 1) 0 = k := by
          show (((s l).map ((M.reseq n s).name (s l))).getD ((s l).idxOf e - 1) 0) = k
          rw [List.getD_eq_getElem?_getD, List.getElem?_map, hget]
          simp only [Option.map_some, Option.getD_some]
          unfold Md.name
          rw [show (M.reseq n s).fst p = some k from hk]; rfl
        have eu : undoOf (M.reseq n s) c = [onL l (cMv 10 i k)] := by
          unfold undoOf
          rw [hi, he, hl]
          have h0' : ¬ ((M.reseq n s).seq l).idxOf e = 0 := h0
          simp only [if_pos hin', if_neg h0']
          have : ((M.reseq n s).names ((M.reseq n s).seq l)).getD (((M.reseq n s).seq l).idxOf e - 1) 0 = k := hnm
          rw [this]
        have hpt : p ∈ (M.reseq n' (upd s l t)).seq l := by show p ∈ upd s l t l; rw [upd_same]; exact h3.mem_iff.2 hpm
        have pr := perm_mv (most := most) (j := k) (x := p) hw (op := 10) (.inr (.inr (.inr rfl))) hL (show (M.reseq n' (upd s l t)).ret i = some e from hr) (het hin) (fun _ => ⟨hrk, hpt⟩)
        have st := mv_step (m := M.reseq n' (upd s l t)) (j := k) (x := p) (op := 10) (.inr (.inr (.inr rfl))) (show (M.reseq n' (upd s l t)).ret i = some e from hr) (het hin) (fun _ => ⟨hrk, hpt, hpe⟩)
        rw [eu]
        refine ⟨by simp only [okFrom, Bool.and_true]; exact (permitted_iff _ _ _).2 pr, ?_⟩
        simp only [runFrom, st, List.length_singleton]
        refine back _ ?_
        rw [rmt, hrm, hs]
        have hpu : p ∉ u' := fun q => by
          rw [hs, List.nodup_append] at nd'
          have := nd'.1
          rw [List.nodup_append] at this
          exact this.2.2 p q p (by simp) rfl
        have hi2 : ((u' ++ [p]) ++ z).idxOf p = u'.length := by rw [List.append_assoc, List.idxOf_append, if_neg hpu]; simp
        have hpo : posOf 10 p ((u' ++ [p]) ++ z) = (u' ++ [p]).length := by simp only [posOf]; rw [hi2]; simp
        rw [hpo, ins_at]
    · have hin' : e ∉ (M.reseq n s).seq l := hin
      have eu : undoOf (M.reseq n s) c = [] := by
        unfold undoOf
        rw [hi, he, hl]
        simp only [if_neg hin']
      have ht : upd s l t = s := by
        have z := mv_not (m := M.reseq n s) hop hl (by rw [hi]; exact he) hin'
        rw [z] at h1
        simp only [Prod.mk.injEq, and_true] at h1
        have q : (M.reseq n s).grow.seq = ((M.reseq n s).grow.setSeq l t).seq := by rw [← h1]
        exact q.symm
      rw [eu, ht]
      exact ⟨rfl, rfl⟩
theorem undo_all {most : Nat} {M : Md} : ∀ (cs : List Cl) {n : Nat} {s : Nat → List Nat}, WF (M.reseq n s) → (∀ k e, e ∈ s k → ∃ i, M.fst e = some i) → okFrom most (M.reseq n s) cs = true → (∀ c ∈ cs, 7 ≤ c.op ∧ c.op ≤ 10) →
    ∃ s' : Nat → List Nat, runFrom (M.reseq n s) cs = M.reseq (n + cs.length) s' ∧ (∀ k e, e ∈ s' k ↔ e ∈ s k) ∧
      ∀ n', WF (M.reseq n' s') → okFrom most (M.reseq n' s') (undosOf (M.reseq n s) cs).reverse = true ∧ runFrom (M.reseq n' s') (undosOf (M.reseq n s) cs).reverse = M.reseq (n' + (undosOf (M.reseq n s) cs).length) s
  | [], n, s, _, _, _, _ => ⟨s, rfl, fun _ _ => Iff.rfl, fun _ _ => ⟨rfl, rfl⟩⟩
  | c :: cs, n, s, h, hn, ho, hc => by
    simp only [okFrom, Bool.and_eq_true] at ho
    have hp := (permitted_iff _ _ _).1 ho.1
    have hop := hc c (by simp)
    obtain ⟨s1, e1, m1, u1⟩ := undo_step h hn hp (by omega)
    have w1 := h.step hp
    rw [e1] at w1
    have ho2 := ho.2
    rw [e1] at ho2
    obtain ⟨s2, e2, m2, u2⟩ := undo_all cs w1 (fun k e q => hn k e ((m1 k e).1 q)) ho2 (fun x hx => hc x (by simp [hx]))
    refine ⟨s2, ?_, fun k e => (m2 k e).trans (m1 k e), fun n' hw => ?_⟩
    · simp only [runFrom, e1, e2, List.length_cons]
      rw [show n + (cs.length + 1) = n + 1 + cs.length by omega]
    · obtain ⟨a, b⟩ := u2 n' hw
      have er : (undosOf (M.reseq n s) (c :: cs)).reverse = (undosOf (M.reseq (n + 1) s1) cs).reverse ++ undoOf (M.reseq n s) c := by
        simp only [undosOf, e1, List.reverse_append]
        rcases undoOf_short (M.reseq n s) c with q | ⟨x, q⟩ <;> rw [q] <;> simp
      have el : (undosOf (M.reseq n s) (c :: cs)).length = (undosOf (M.reseq (n + 1) s1) cs).length + (undoOf (M.reseq n s) c).length := by
        simp only [undosOf, e1, List.length_append]; omega
      have w2 : WF (M.reseq (n' + (undosOf (M.reseq (n + 1) s1) cs).length) s1) := by rw [← b]; exact WF.run _ hw a
      obtain ⟨c1, c2⟩ := u1 _ w2
      rw [er, el, okFrom_append, runFrom_append, a, b, c2]
      refine ⟨by simpa using c1, ?_⟩
      rw [Nat.add_assoc]
theorem undone_law {ns mv : List Cl} (hok : okFrom 500 Md.init ns = true) (hn : ∀ k e, e ∈ (runFrom Md.init ns).seq k → ∃ i, (runFrom Md.init ns).fst e = some i) (ho : okFrom 500 Md.init (ns ++ mv) = true) (hc : ∀ c ∈ mv, 7 ≤ c.op ∧ c.op ≤ 10) :
    okFrom 500 Md.init ((ns ++ mv) ++ (undosOf (runFrom Md.init ns) mv).reverse) = true ∧ ∀ k, Look k (runFrom Md.init ((ns ++ mv) ++ (undosOf (runFrom Md.init ns) mv).reverse)) (runFrom Md.init ns) := by
  have hw := WF.run ns WF.init hok
  rw [okFrom_append, hok] at ho
  simp only [Bool.true_and] at ho
  generalize hM : runFrom Md.init ns = M at *
  obtain ⟨s', e1, m1, u1⟩ := undo_all (M := M) mv (n := 0) (s := M.seq) hw hn ho hc
  rw [reseq_zero] at e1 u1
  have w1 : WF (M.reseq (0 + mv.length) s') := by rw [← e1]; exact WF.run _ hw ho
  obtain ⟨a, b⟩ := u1 _ w1
  refine ⟨?_, fun k => ?_⟩
  · rw [okFrom_append, okFrom_append, hok, runFrom_append, hM, ho, e1, a]; rfl
  · rw [runFrom_append, runFrom_append, hM, e1, b]
    refine ⟨rfl, fun _ _ => rfl, fun e he => ?_⟩
    obtain ⟨i, hi⟩ := hn k e he
    exact ⟨i, hi, hi⟩
end Bead
end Go.Proofs.Ytidnmanljdadaaa

/- Plain laws: lists joined. No program is in sight here. -/
namespace Go.Proofs.Ytidnmanljdadaaa
namespace Bead

structure Joined (M m : Md) (f : Nat) (W : List Vl) : Prop where
  wf : WF m
  oth : ∀ k, k ≠ f → m.seq k = M.seq k
  cnt : M.cnt ≤ m.cnt
  val : ∀ e, e < M.cnt → m.val e = M.val e
  fst : m.fst = M.fst
  vals : (m.seq f).map m.val = W
def cZero : Cl := ⟨1, 0, 0, 0, 0, Vl.zero⟩
theorem joined_start {M : Md} (h : WF M) : Permitted 500 M cZero ∧ Joined M (M.step cZero).1 M.len [] := by
  have p : Permitted 500 M cZero := ⟨by simp [cZero], by simp [cZero], fun q => by simp [cZero] at q, fun q => by simp [cZero] at q, fun q => by simp [cZero] at q, fun q => by simp [cZero] at q, fun q => by simp [cZero] at q, fun q => by simp [cZero] at q, fun q => by simp [cZero] at q, fun q => by simp [cZero] at q⟩
  refine ⟨p, h.step p, ?_, ?_, ?_, ?_, ?_⟩ <;> rw [step_01 M (c := cZero) (.inr rfl)]
  · intro k _; rfl
  · exact Nat.le_refl _
  · intro e _; rfl
  · rfl
  · have : M.seq M.len = [] := h.emp M.len (by
      cases q : M.isL M.len with
      | false => rfl
      | true => have := h.isl M.len q; omega)
    show (M.seq M.len).map M.val = []
    rw [this]; rfl
theorem joined_step {M m : Md} {f o : Nat} {W : List Vl} (hM : WF M) (h : Joined M m f W) (ho : o ≠ f) (hp : Permitted 500 m (onL f (cLs 12 o))) : Joined M (m.step (onL f (cLs 12 o))).1 f (W ++ (M.seq o).map M.val) := by
  have w := h.wf.step hp
  have cp := copied (m := m) (l := f) (o := o) (op := 12) (.inl rfl)
  generalize (m.step (onL f (cLs 12 o))).1 = X at cp w
  refine ⟨w, fun k hk => by rw [cp.seq, upd_other _ _ hk]; exact h.oth k hk, by rw [cp.cnt]; have := h.cnt; omega, fun e he => by rw [cp.old e (Nat.lt_of_lt_of_le he h.cnt)]; exact h.val e he, by rw [cp.fst]; exact h.fst, ?_⟩
  have hd : decide ((12 : Int) = 13) = false := rfl
  rw [cp.seq, upd_same, hd]
  simp only [Bool.false_eq_true, if_false]
  rw [List.map_append, cp.new, h.oth o ho, ← h.vals]
  congr 1
  · exact List.map_congr_left (fun e he => cp.old e (h.wf.lt he))
  · exact List.map_congr_left (fun e he => h.val e (hM.lt he))
theorem joined_last {M m : Md} {f : Nat} {W : List Vl} (h : Joined M m f W) (hp : Permitted 500 m (onL f (cLs 13 f))) : Joined M (m.step (onL f (cLs 13 f))).1 f (W ++ W) := by
  have w := h.wf.step hp
  have cp := copied (m := m) (l := f) (o := f) (op := 13) (.inr rfl)
  generalize (m.step (onL f (cLs 13 f))).1 = X at cp w
  refine ⟨w, fun k hk => by rw [cp.seq, upd_other _ _ hk]; exact h.oth k hk, by rw [cp.cnt]; have := h.cnt; omega, fun e he => by rw [cp.old e (Nat.lt_of_lt_of_le he h.cnt)]; exact h.val e he, by rw [cp.fst]; exact h.fst, ?_⟩
  have hd : decide ((13 : Int) = 13) = true := rfl
  rw [cp.seq, upd_same, hd]
  simp only [if_true]
  rw [List.map_append, cp.new, h.vals]
  congr 1
  rw [← h.vals]
  exact List.map_congr_left (fun e he => cp.old e (h.wf.lt he))
theorem joined_all {M : Md} {f : Nat} (hM : WF M) : ∀ (os : List Nat) {m : Md} {W : List Vl}, Joined M m f W → (∀ o ∈ os, o ≠ f) → okFrom 500 m (os.map fun o => onL f (cLs 12 o)) = true → Joined M (runFrom m (os.map fun o => onL f (cLs 12 o))) f (W ++ os.flatMap fun o => (M.seq o).map M.val)
  | [], _, _, h, _, _ => by simpa [runFrom] using h
  | o :: os, m, W, h, ho, hk => by
    simp only [List.map_cons, okFrom, Bool.and_eq_true] at hk
    have := joined_all hM os (joined_step hM h (ho o (by simp)) ((permitted_iff _ _ _).1 hk.1)) (fun x hx => ho x (by simp [hx])) hk.2
    simp only [List.map_cons, runFrom, List.flatMap_cons]
    rw [← List.append_assoc]; exact this
theorem joined_law {ns : List Cl} {os : List Nat} (hok : okFrom 500 Md.init ns = true) (hn : ∀ k e, e ∈ (runFrom Md.init ns).seq k → ∃ i, (runFrom Md.init ns).fst e = some i) (hos : ∀ o ∈ os, o ∈ listsOf ns) : ∀ M L, M = runFrom Md.init ns → L = (ns ++ [cZero]) ++ (os.map fun o => onL ns.length (cLs 12 o)) ++ [onL ns.length (cLs 13 ns.length)] → okFrom 500 Md.init L = true →
    (runFrom Md.init L).isL ns.length = true ∧ ((runFrom Md.init L).seq ns.length).map (runFrom Md.init L).val = (os.flatMap fun o => (M.seq o).map M.val) ++ (os.flatMap fun o => (M.seq o).map M.val) ∧ ∀ k ∈ listsOf ns, Look k (runFrom Md.init L) M := by
  intro M L hM hL ho
  have hw := WF.run ns WF.init hok
  have hlen := run_init_len ns
  rw [← hM] at hw hn hlen
  have hlt : ∀ o ∈ listsOf ns, o < ns.length := fun o h => by rw [← hlen]; exact hw.isl o (by rw [hM]; exact mem_lists o h)
  rw [hL, okFrom_append, okFrom_append, okFrom_append, hok, runFrom_append, runFrom_append, runFrom_append, ← hM] at ho
  simp only [Bool.true_and, Bool.and_eq_true] at ho
  obtain ⟨⟨h1, h2⟩, h3⟩ := ho
  obtain ⟨_, j0⟩ := joined_start hw
  rw [hlen] at j0
  have e0 : runFrom M [cZero] = (M.step cZero).1 := rfl
  rw [e0] at h2 h3
  have j1 := joined_all hw os j0 (fun o ho => by have := hlt o (hos o ho); omega) h2
  rw [List.nil_append] at j1
  simp only [okFrom, Bool.and_true] at h3
  have p3 := (permitted_iff _ _ _).1 h3
  have j2 := joined_last j1 p3
  have eL : runFrom Md.init L = ((runFrom (M.step cZero).1 (os.map fun o => onL ns.length (cLs 12 o))).step (onL ns.length (cLs 13 ns.length))).1 := by
    rw [hL, runFrom_append, runFrom_append, runFrom_append, ← hM, e0]; rfl
  refine ⟨?_, ?_, fun k hk => ?_⟩
  · have := (perm_ls_inv (.inr rfl) p3).1
    rw [eL, (copied (.inr rfl)).isL]; exact this
  · rw [eL]; exact j2.vals
  · rw [eL]
    have hkf : k ≠ ns.length := by have := hlt k hk; omega
    refine Look.symm ⟨j2.oth k hkf, fun e he => j2.val e (hw.lt he), fun e he => ?_⟩
    obtain ⟨i, hi⟩ := hn k e he
    exact ⟨i, hi, by rw [j2.fst]; exact hi⟩
end Bead
end Go.Proofs.Ytidnmanljdadaaa
