/- Contracts of container/list's moves, of Next and Prev, and of PushBackList and PushFrontList: for every memory in which lists and elements lie as BRep says. -/
import Derived.Test.YtidnmanljdadaaaLWalk2
import Derived.Deep.LoopGhost
import Derived.Deep.RegionWith
set_option linter.all false
namespace Go.Proofs.Ytidnmanljdadaaa
open Go.RowKit
namespace Bead
set_option maxRecDepth 100000

section
variable {w : World} {m : BM} {l : Nat}

theorem move_c {u z u' z' : List Nat} {e : Nat} (h : BRep w m) (hl : m.L l) (hs : m.sq l = u ++ e :: z) (hs' : u ++ z = u' ++ z') :
    Calls Try.prog 106 #[.pointer (some ⟨l, 0, none⟩), .pointer (some ⟨e, 0, none⟩), .pointer (some ⟨lt l u', 0, none⟩)] w fun r w' =>
      r = .returned (.tuple #[]) ∧ BRep w' (m.setSq l (u' ++ e :: z')) ∧ Keeps m.node w w' ∧ w'.heap.size = w.heap.size := by
  have hi := h.inited hl (by rw [hs]; simp)
  have hE := (h.own hl (e := e) (by rw [hs]; simp)).1
  obtain ⟨nx, pv, a, g, hr⟩ := hi
  have hnode : ∀ x, x = l ∨ x ∈ m.sq l → m.node x := fun x hx => by
    rcases hx with q | q
    · subst q; exact .inl hl
    · exact .inr (g.own l x hl q).1
  have hsub : ∀ x, x ∈ u' ++ z' → x ∈ m.sq l := by
    intro x hx; rw [← hs'] at hx; rw [hs]; rcases List.mem_append.1 hx with q | q <;> simp [q]
  have hel : ¬ e = l := fun q => by subst q; exact g.dis e hl hE
  have hnd := g.nodup l hl
  rw [hs] at hnd
  have hnd1 := List.nodup_append.1 hnd
  have heu : e ∉ u := fun q => hnd1.2.2 e q e (by simp) rfl
  have hez : e ∉ z := (List.nodup_cons.1 hnd1.2.1).1
  have he' : e ∉ u' ++ z' := by rw [← hs']; intro q; rcases List.mem_append.1 q with q | q; exact heu q; exact hez q
  have far_lt : ∀ v : List Nat, e ∉ v → ¬ e = lt l v := fun v hv q => by
    rcases lt_or l v with r | r
    · exact hel (q.trans r)
    · exact hv (q ▸ r)
  have far_hd : ∀ v : List Nat, e ∉ v → ¬ e = hd v l := fun v hv q => by
    rcases hd_or l v with r | r
    · exact hel (q.trans r)
    · exact hv (q ▸ r)
  have hmid := ring_mid (hs ▸ hr)
  have hndl : (l :: (u ++ e :: z)).Nodup := by have := g.nd hl; rwa [hs] at this
  have hrem := ring_remove (hs ▸ hr) hndl
  rw [hs'] at hrem
  have hbt := ring_between hrem
  have hrem2 := ring_remove (hs ▸ hr) hndl
  have hbt2 := ring_between hrem2
  have key := move_h (l := l) (e := e) (p := lt l u) (n := hd z l) (a := lt l u') (q := hd z' l) a hE
    (hnode _ (near_lt (s := m.sq l) (by rw [hs]; intro x hx; simp [hx]) rfl)) (hnode _ (near_hd (s := m.sq l) (by rw [hs]; intro x hx; simp [hx]) rfl))
    (hnode _ (near_lt (s := m.sq l) (fun x hx => hsub x (by simp [hx])) rfl)) (hnode _ (near_hd (s := m.sq l) (fun x hx => hsub x (by simp [hx])) rfl))
    hmid.1 hmid.2 hbt.1 (far_lt u heu) (far_hd z hez) (far_lt u' (fun q => he' (by simp [q]))) (far_hd z' (fun q => he' (by simp [q])))
    (fun hne q => hne (by
      have e1 := hbt.2
      have e2 := hbt2.2
      rw [q] at e1
      have := e1.symm.trans e2
      simpa using this))
  refine key.mono ?_
  rintro r w' ⟨rfl, hH, hK, hz⟩
  refine ⟨rfl, ⟨_, _, ?_, (g.move hl hs hs' hr).1⟩, hK, hz⟩
  have e1 : lnOf (m.setSq l (u' ++ e :: z')) = lnOf m := by
    rw [lnOf_setSq]; funext b; simp only [upd, lnOf]; split
    · rename_i q; subst q; rw [hs]
      have := congrArg List.length hs'
      simp at this ⊢; omega
    · rfl
  rw [e1]
  exact hH

theorem root_cells (h : BRepI w m l) (hl : m.L l) : w.cell? ⟨l, 0, none⟩ = some (.pointer (some ⟨hd (m.sq l) l, 0, none⟩)) ∧ w.cell? ⟨l, 1, none⟩ = some (.pointer (some ⟨lt l (m.sq l), 0, none⟩)) := by
  obtain ⟨nx, pv, a, g, hr⟩ := h
  have b0 := ring_between (u := []) hr
  have b1 := ring_between (u := m.sq l) (z := []) (by simpa using hr)
  have c0 := a.nxc (.inl hl)
  have c1 := a.pvc (.inl hl)
  rw [show l = lt l [] from rfl, b0.1] at c0
  rw [show l = hd [] l from rfl, b1.2] at c1
  exact ⟨c0, c1⟩

theorem moveToFront_c {u z : List Nat} {e : Nat} (h : BRep w m) (hl : m.L l) (hs : m.sq l = u ++ e :: z) :
    Calls Try.prog 62 #[.pointer (some ⟨l, 0, none⟩), .pointer (some ⟨e, 0, none⟩)] w fun r w' =>
      r = .returned (.tuple #[]) ∧ BRep w' (m.setSq l (e :: (u ++ z))) ∧ Keeps m.node w w' ∧ w'.heap.size = w.heap.size := by
  have hi := h.inited hl (by rw [hs]; simp)
  obtain ⟨r0, _⟩ := root_cells hi hl
  obtain ⟨c0, c1, c2⟩ := h.mid hl hs
  have hE := (h.own hl (e := e) (by rw [hs]; simp)).1
  have q := neq_of_eql (tp := 107) (eql_L (h.plain (.inl hl)) (h.plain (.inl hl)) true (by simp))
  have hnd := h.nodup hl
  rw [hs] at hnd
  cases u with
  | nil =>
    rw [hs] at r0
    simp only [List.nil_append, hd, List.head?_cons, Option.getD_some] at r0
    have q2 := eql_E (h.plain (.inr hE)) (h.plain (.inr hE)) true (by simp)
    have F : Hid (BRep w (m.setSq l (e :: ([] ++ z)))) := by rw [setSq_eq m l _ (by rw [hs]; simp)]; exact h
    clear hs hnd hi h
    go_enter Try.func62, Try.ntmps62
    go_wp2
    first | go_end0 | (refine bodyPost_ret (results_none rfl _ _ _) rfl ?_)
    exact ⟨rfl, F.out, Keeps.refl _ _, rfl⟩
  | cons x u =>
    have hx : m.E x := (h.own hl (e := x) (by rw [hs]; simp)).1
    have hne : ¬ x = e := fun r => (List.nodup_cons.1 hnd).1 (by rw [r]; simp)
    have key := move_c (u' := []) (z' := x :: u ++ z) h hl hs (by simp)
    rw [hs] at r0
    simp only [List.cons_append, hd, List.head?_cons, Option.getD_some] at r0
    have q2 := eql_E (h.plain (.inr hx)) (h.plain (.inr hE)) false (by simpa using hne)
    have KEY := Lib.hid key
    clear key hs hnd hi h hne
    go_enter Try.func62, Try.ntmps62
    go_wp2_with fail
    refine KEY.out.mono ?_
    rintro r w' ⟨rfl, hR, hK, hz⟩
    have HR := Lib.hid hR; have HZ := Lib.hid hz; clear hR hz
    go_wp2
    go_end0
    exact ⟨rfl, HR.out, hK, HZ.out⟩

theorem lt_append (b : Nat) (u : List Nat) {z : List Nat} (h : z ≠ []) : lt b (u ++ z) = lt b z := by
  unfold lt
  rw [List.getLast?_append]
  cases z with
  | nil => exact absurd rfl h
  | cons x z => simp [List.getLast?_cons]

theorem moveToBack_c {u z : List Nat} {e : Nat} (h : BRep w m) (hl : m.L l) (hs : m.sq l = u ++ e :: z) :
    Calls Try.prog 63 #[.pointer (some ⟨l, 0, none⟩), .pointer (some ⟨e, 0, none⟩)] w fun r w' =>
      r = .returned (.tuple #[]) ∧ BRep w' (m.setSq l (u ++ z ++ [e])) ∧ Keeps m.node w w' ∧ w'.heap.size = w.heap.size := by
  have hi := h.inited hl (by rw [hs]; simp)
  obtain ⟨_, r0⟩ := root_cells hi hl
  obtain ⟨c0, c1, c2⟩ := h.mid hl hs
  have hE := (h.own hl (e := e) (by rw [hs]; simp)).1
  have q := neq_of_eql (tp := 107) (eql_L (h.plain (.inl hl)) (h.plain (.inl hl)) true (by simp))
  have hnd := h.nodup hl
  rw [hs] at hnd
  by_cases hz0 : z = []
  · subst hz0
    rw [hs, lt_append _ _ (by simp)] at r0
    simp only [lt, List.getLast?_singleton, Option.getD_some] at r0
    have q2 := eql_E (h.plain (.inr hE)) (h.plain (.inr hE)) true (by simp)
    have F : Hid (BRep w (m.setSq l (u ++ [] ++ [e]))) := by rw [setSq_eq m l _ (by rw [hs]; simp)]; exact h
    clear hs hnd hi h
    go_enter Try.func63, Try.ntmps63
    go_wp2
    first | go_end0 | (refine bodyPost_ret (results_none rfl _ _ _) rfl ?_)
    exact ⟨rfl, F.out, Keeps.refl _ _, rfl⟩
  · have hnd1 := List.nodup_append.1 hnd
    have e1 : lt l (u ++ e :: z) = lt l (u ++ z) := by
      rw [lt_append _ _ (by simp), lt_append _ _ hz0, show e :: z = [e] ++ z from rfl, lt_append _ _ hz0]
    have hx : lt l (u ++ z) ∈ z := by
      rw [lt_append _ _ hz0]
      unfold lt
      cases hg : z.getLast? with
      | none => simp at hg; exact absurd hg hz0
      | some y => simpa using List.mem_of_getLast? hg
    have hx2 : m.E (lt l (u ++ z)) := (h.own hl (by rw [hs]; simp [hx])).1
    have hne : ¬ lt l (u ++ z) = e := fun r => (List.nodup_cons.1 hnd1.2.1).1 (r ▸ hx)
    have key := move_c (u' := u ++ z) (z' := []) h hl hs (by simp)
    rw [hs, e1] at r0
    have q2 := eql_E (h.plain (.inr hx2)) (h.plain (.inr hE)) false (by simpa using hne)
    have KEY := Lib.hid key
    clear key hs hnd hnd1 hi h hne e1 hx
    go_enter Try.func63, Try.ntmps63
    go_wp2_with fail
    refine KEY.out.mono ?_
    rintro r w' ⟨rfl, hR, hK, hz⟩
    have HR := Lib.hid hR; have HZ := Lib.hid hz; clear hR hz
    go_wp2
    go_end0
    exact ⟨rfl, HR.out, hK, HZ.out⟩

theorem moveAfter_c {u z u' z' : List Nat} {e k : Nat} (h : BRep w m) (hl : m.L l) (hs : m.sq l = u ++ e :: z) (hs' : u ++ z = u' ++ k :: z') :
    Calls Try.prog 65 #[.pointer (some ⟨l, 0, none⟩), .pointer (some ⟨e, 0, none⟩), .pointer (some ⟨k, 0, none⟩)] w fun r w' =>
      r = .returned (.tuple #[]) ∧ BRep w' (m.setSq l (u' ++ k :: e :: z')) ∧ Keeps m.node w w' ∧ w'.heap.size = w.heap.size := by
  have hnd := h.nodup hl
  rw [hs] at hnd
  have hkin : k ∈ u ++ z := by rw [hs']; simp
  have hkin2 : k ∈ m.sq l := by rw [hs]; rcases List.mem_append.1 hkin with q | q <;> simp [q]
  have hne : ¬ e = k := fun r => by
    subst r
    rcases List.mem_append.1 hkin with q | q
    · exact (List.nodup_append.1 hnd).2.2 e q e (by simp) rfl
    · exact (List.nodup_cons.1 (List.nodup_append.1 hnd).2.1).1 q
  obtain ⟨u1, z1, hs1⟩ := List.append_of_mem hkin2
  obtain ⟨_, _, c2⟩ := h.mid hl hs
  obtain ⟨_, _, d2⟩ := h.mid hl hs1
  have hE := (h.own hl (e := e) (by rw [hs]; simp)).1
  have hK := (h.own hl hkin2).1
  have q := neq_of_eql (tp := 107) (eql_L (h.plain (.inl hl)) (h.plain (.inl hl)) true (by simp))
  have q2 := eql_E (h.plain (.inr hE)) (h.plain (.inr hK)) false (by simpa using hne)
  have key := move_c (u' := u' ++ [k]) (z' := z') h hl hs (by rw [hs']; simp)
  rw [show lt l (u' ++ [k]) = k by simp [lt], show u' ++ [k] ++ e :: z' = u' ++ k :: e :: z' by simp] at key
  have KEY := Lib.hid key
  clear key hs hs1 hs' hnd h hne hkin hkin2
  go_enter Try.func65, Try.ntmps65
  go_wp2_with fail
  refine KEY.out.mono ?_
  rintro r w' ⟨rfl, hR, hK, hz⟩
  have HR := Lib.hid hR; have HZ := Lib.hid hz; clear hR hz
  go_wp2
  go_end0
  exact ⟨rfl, HR.out, hK, HZ.out⟩

theorem moveBefore_c {u z u' z' : List Nat} {e k : Nat} (h : BRep w m) (hl : m.L l) (hs : m.sq l = u ++ e :: z) (hs' : u ++ z = u' ++ k :: z') :
    Calls Try.prog 64 #[.pointer (some ⟨l, 0, none⟩), .pointer (some ⟨e, 0, none⟩), .pointer (some ⟨k, 0, none⟩)] w fun r w' =>
      r = .returned (.tuple #[]) ∧ BRep w' (m.setSq l (u' ++ e :: k :: z')) ∧ Keeps m.node w w' ∧ w'.heap.size = w.heap.size := by
  have hnd := h.nodup hl
  rw [hs] at hnd
  have hkin : k ∈ u ++ z := by rw [hs']; simp
  have hkin2 : k ∈ m.sq l := by rw [hs]; rcases List.mem_append.1 hkin with q | q <;> simp [q]
  have hne : ¬ e = k := fun r => by
    subst r
    rcases List.mem_append.1 hkin with q | q
    · exact (List.nodup_append.1 hnd).2.2 e q e (by simp) rfl
    · exact (List.nodup_cons.1 (List.nodup_append.1 hnd).2.1).1 q
  obtain ⟨_, _, c2⟩ := h.mid hl hs
  have hE := (h.own hl (e := e) (by rw [hs]; simp)).1
  have hK := (h.own hl hkin2).1
  have q := neq_of_eql (tp := 107) (eql_L (h.plain (.inl hl)) (h.plain (.inl hl)) true (by simp))
  have q2 := eql_E (h.plain (.inr hE)) (h.plain (.inr hK)) false (by simpa using hne)
  have key : ∃ p, w.cell? ⟨k, 1, none⟩ = some (.pointer (some ⟨p, 0, none⟩)) ∧ w.cell? ⟨k, 2, none⟩ = some (.pointer (some ⟨l, 0, none⟩)) ∧
      Calls Try.prog 106 #[.pointer (some ⟨l, 0, none⟩), .pointer (some ⟨e, 0, none⟩), .pointer (some ⟨p, 0, none⟩)] w fun r w' =>
      r = .returned (.tuple #[]) ∧ BRep w' (m.setSq l (u' ++ e :: k :: z')) ∧ Keeps m.node w w' ∧ w'.heap.size = w.heap.size := by
    have kc := move_c (u' := u') (z' := k :: z') h hl hs hs'
    rcases List.append_eq_append_iff.1 hs' with ⟨c, h1, h2⟩ | ⟨c, h1, h2⟩
    · subst h1; subst h2
      cases c with
      | nil =>
        obtain ⟨_, d1, d2⟩ := h.mid (u := u ++ [e]) (z := z') (e := k) hl (by rw [hs]; simp)
        refine ⟨e, by simpa [lt] using d1, d2, (move_same (h.plain (.inr hE))).mono ?_⟩
        rintro r w' ⟨rfl, rfl⟩
        exact ⟨rfl, by rw [setSq_eq m l _ (by rw [hs]; simp)]; exact h, Keeps.refl _ _, rfl⟩
      | cons x c =>
        obtain ⟨_, d1, d2⟩ := h.mid (u := u ++ e :: x :: c) (z := z') (e := k) hl (by rw [hs]; simp)
        refine ⟨_, d1, d2, ?_⟩
        rw [show lt l (u ++ e :: x :: c) = lt l (u ++ x :: c) by
          rw [lt_append _ _ (by simp), lt_append _ _ (by simp), show e :: x :: c = [e] ++ x :: c from rfl, lt_append _ _ (by simp)]]
        exact kc
    · subst h1
      cases c with
      | nil =>
        simp only [List.nil_append] at h2
        subst h2
        obtain ⟨_, d1, d2⟩ := h.mid (u := u' ++ [e]) (z := z') (e := k) hl (by rw [hs]; simp)
        refine ⟨e, by simpa [lt] using d1, d2, (move_same (h.plain (.inr hE))).mono ?_⟩
        rintro r w' ⟨rfl, rfl⟩
        exact ⟨rfl, by rw [setSq_eq m l _ (by rw [hs]; simp)]; exact h, Keeps.refl _ _, rfl⟩
      | cons x c =>
        simp only [List.cons_append, List.cons.injEq] at h2
        obtain ⟨rfl, rfl⟩ := h2
        obtain ⟨_, d1, d2⟩ := h.mid (u := u') (z := c ++ e :: z) (e := k) hl (by rw [hs]; simp)
        exact ⟨_, d1, d2, kc⟩
  obtain ⟨p, d1, d2, key⟩ := key
  have KEY := Lib.hid key
  clear key hs hs' hnd h hne hkin hkin2
  go_enter Try.func64, Try.ntmps64
  go_wp2_with fail
  refine KEY.out.mono ?_
  rintro r w' ⟨rfl, hR, hK, hz⟩
  have HR := Lib.hid hR; have HZ := Lib.hid hz; clear hR hz
  go_wp2
  go_end0
  exact ⟨rfl, HR.out, hK, HZ.out⟩
/-- The cell and the tests of 'e.list' where the element names another list or none. -/
theorem far_own {e : Nat} (h : BRep w m) (ho : m.owned) (hl : m.L l) (he : m.E e) (hne : ¬ m.ow e = some l) :
    ∃ o, w.cell? ⟨e, 2, none⟩ = some (.pointer o) ∧ (binOp .neq 107 (.pointer o) (.pointer (some ⟨l, 0, none⟩))).run Try.prog w = .ok (.bool true) w := by
  have q := neq_pt (h.eql_own he hl (ho e · he) false (by simpa using hne) w (fun _ => h.plain))
  exact ⟨_, h.owc he, q⟩
theorem near_own {e : Nat} (h : BRep w m) (hl : m.L l) (he : m.E e) (heq : m.ow e = some l) :
    w.cell? ⟨e, 2, none⟩ = some (.pointer (some ⟨l, 0, none⟩)) ∧ (binOp .neq 107 (.pointer (some ⟨l, 0, none⟩)) (.pointer (some ⟨l, 0, none⟩))).run Try.prog w = .ok (.bool false) w := by
  have c := h.owc he
  rw [heq] at c
  exact ⟨c, neq_of_eql (tp := 107) (eql_L (h.plain (.inl hl)) (h.plain (.inl hl)) true (by simp))⟩

theorem moveToFront_no {e : Nat} (h : BRep w m) (ho : m.owned) (hl : m.L l) (he : m.E e) (hne : ¬ m.ow e = some l) :
    Calls Try.prog 62 #[.pointer (some ⟨l, 0, none⟩), .pointer (some ⟨e, 0, none⟩)] w fun r w' => r = .returned (.tuple #[]) ∧ w = w' := by
  obtain ⟨o, c, q⟩ := far_own h ho hl he hne
  go_enter Try.func62, Try.ntmps62
  go_wp2
  first | go_end0 | (refine bodyPost_ret (results_none rfl _ _ _) rfl ?_)
  exact ⟨rfl, rfl⟩
theorem moveToBack_no {e : Nat} (h : BRep w m) (ho : m.owned) (hl : m.L l) (he : m.E e) (hne : ¬ m.ow e = some l) :
    Calls Try.prog 63 #[.pointer (some ⟨l, 0, none⟩), .pointer (some ⟨e, 0, none⟩)] w fun r w' => r = .returned (.tuple #[]) ∧ w = w' := by
  obtain ⟨o, c, q⟩ := far_own h ho hl he hne
  go_enter Try.func63, Try.ntmps63
  go_wp2
  first | go_end0 | (refine bodyPost_ret (results_none rfl _ _ _) rfl ?_)
  exact ⟨rfl, rfl⟩
theorem moveBefore_no {e k : Nat} (h : BRep w m) (ho : m.owned) (hl : m.L l) (he : m.E e) (hk : m.E k) (hne : ¬ (m.ow e = some l ∧ ¬ e = k ∧ m.ow k = some l)) :
    Calls Try.prog 64 #[.pointer (some ⟨l, 0, none⟩), .pointer (some ⟨e, 0, none⟩), .pointer (some ⟨k, 0, none⟩)] w fun r w' => r = .returned (.tuple #[]) ∧ w = w' := by
  by_cases h1 : m.ow e = some l
  · obtain ⟨c, q⟩ := near_own h hl he h1
    by_cases h2 : e = k
    · subst h2
      have q2 := eql_E (h.plain (.inr he)) (h.plain (.inr he)) true (by simp)
      clear hne h1
      go_enter Try.func64, Try.ntmps64
      go_wp2
      first | go_end0 | (refine bodyPost_ret (results_none rfl _ _ _) rfl ?_)
      exact ⟨rfl, rfl⟩
    · have h3 : ¬ m.ow k = some l := fun q => hne ⟨h1, h2, q⟩
      have q2 := eql_E (h.plain (.inr he)) (h.plain (.inr hk)) false (by simpa using h2)
      obtain ⟨o, c', q'⟩ := far_own h ho hl hk h3
      clear hne h1 h2 h3
      go_enter Try.func64, Try.ntmps64
      go_wp2
      first | go_end0 | (refine bodyPost_ret (results_none rfl _ _ _) rfl ?_)
      exact ⟨rfl, rfl⟩
  · obtain ⟨o, c, q⟩ := far_own h ho hl he h1
    clear hne h1
    go_enter Try.func64, Try.ntmps64
    go_wp2
    first | go_end0 | (refine bodyPost_ret (results_none rfl _ _ _) rfl ?_)
    exact ⟨rfl, rfl⟩
theorem moveAfter_no {e k : Nat} (h : BRep w m) (ho : m.owned) (hl : m.L l) (he : m.E e) (hk : m.E k) (hne : ¬ (m.ow e = some l ∧ ¬ e = k ∧ m.ow k = some l)) :
    Calls Try.prog 65 #[.pointer (some ⟨l, 0, none⟩), .pointer (some ⟨e, 0, none⟩), .pointer (some ⟨k, 0, none⟩)] w fun r w' => r = .returned (.tuple #[]) ∧ w = w' := by
  by_cases h1 : m.ow e = some l
  · obtain ⟨c, q⟩ := near_own h hl he h1
    by_cases h2 : e = k
    · subst h2
      have q2 := eql_E (h.plain (.inr he)) (h.plain (.inr he)) true (by simp)
      clear hne h1
      go_enter Try.func65, Try.ntmps65
      go_wp2
      first | go_end0 | (refine bodyPost_ret (results_none rfl _ _ _) rfl ?_)
      exact ⟨rfl, rfl⟩
    · have h3 : ¬ m.ow k = some l := fun q => hne ⟨h1, h2, q⟩
      have q2 := eql_E (h.plain (.inr he)) (h.plain (.inr hk)) false (by simpa using h2)
      obtain ⟨o, c', q'⟩ := far_own h ho hl hk h3
      clear hne h1 h2 h3
      go_enter Try.func65, Try.ntmps65
      go_wp2
      first | go_end0 | (refine bodyPost_ret (results_none rfl _ _ _) rfl ?_)
      exact ⟨rfl, rfl⟩
  · obtain ⟨o, c, q⟩ := far_own h ho hl he h1
    clear hne h1
    go_enter Try.func65, Try.ntmps65
    go_wp2
    first | go_end0 | (refine bodyPost_ret (results_none rfl _ _ _) rfl ?_)
    exact ⟨rfl, rfl⟩

theorem BRep.loose (h : BRep w m) {e : Nat} (he : m.E e) (ho : m.ow e = none) : w.cell? ⟨e, 0, none⟩ = some (.pointer none) ∧ w.cell? ⟨e, 1, none⟩ = some (.pointer none) ∧ w.cell? ⟨e, 2, none⟩ = some (.pointer none) := by
  obtain ⟨nx, pv, a, g⟩ := h
  have := g.loose e he ho
  have c0 := a.nxc (.inr he)
  have c1 := a.pvc (.inr he)
  have c2 := a.owc he
  rw [this.1] at c0; rw [this.2] at c1; rw [ho] at c2
  exact ⟨c0, c1, c2⟩

theorem next_none {e : Nat} (h : BRep w m) (he : m.E e) (ho : m.ow e = none) : Calls Try.prog 75 #[.pointer (some ⟨e, 0, none⟩)] w fun r w' => r = .returned (.pointer none) ∧ w = w' := by
  obtain ⟨c0, c1, c2⟩ := h.loose he ho
  clear ho
  go_enter Try.func75, Try.ntmps75
  go_wp2
  go_ret
  exact ⟨rfl, rfl⟩
theorem prev_none {e : Nat} (h : BRep w m) (he : m.E e) (ho : m.ow e = none) : Calls Try.prog 76 #[.pointer (some ⟨e, 0, none⟩)] w fun r w' => r = .returned (.pointer none) ∧ w = w' := by
  obtain ⟨c0, c1, c2⟩ := h.loose he ho
  clear ho
  go_enter Try.func76, Try.ntmps76
  go_wp2
  go_ret
  exact ⟨rfl, rfl⟩
theorem next_c {u z : List Nat} {e : Nat} (h : BRep w m) (hl : m.L l) (hs : m.sq l = u ++ e :: z) : Calls Try.prog 75 #[.pointer (some ⟨e, 0, none⟩)] w fun r w' => r = .returned (pt z.head?) ∧ w = w' := by
  obtain ⟨c0, c1, c2⟩ := h.mid hl hs
  cases z with
  | nil =>
    simp only [hd, List.head?_nil, Option.getD_none] at c0
    have q := neq_of_eql (tp := 109) (eql_E (h.plain (.inl hl)) (h.plain (.inl hl)) true (by simp))
    clear hs
    go_enter Try.func75, Try.ntmps75
    go_wp2
    go_ret
    exact ⟨rfl, rfl⟩
  | cons x z =>
    simp only [hd, List.head?_cons, Option.getD_some] at c0
    have hx := (h.own hl (e := x) (by rw [hs]; simp)).1
    have hne : ¬ x = l := fun r => by subst r; exact h.dis hl hx
    have q := neq_of_eql (tp := 109) (eql_E (h.plain (.inr hx)) (h.plain (.inl hl)) false (by simpa using hne))
    clear hs
    go_enter Try.func75, Try.ntmps75
    go_wp2
    go_ret
    exact ⟨rfl, rfl⟩
theorem prev_c {u z : List Nat} {e : Nat} (h : BRep w m) (hl : m.L l) (hs : m.sq l = u ++ e :: z) : Calls Try.prog 76 #[.pointer (some ⟨e, 0, none⟩)] w fun r w' => r = .returned (pt u.getLast?) ∧ w = w' := by
  obtain ⟨c0, c1, c2⟩ := h.mid hl hs
  cases hg : u.getLast? with
  | none =>
    simp only [lt, hg, Option.getD_none] at c1
    have q := neq_of_eql (tp := 109) (eql_E (h.plain (.inl hl)) (h.plain (.inl hl)) true (by simp))
    clear hs hg
    go_enter Try.func76, Try.ntmps76
    go_wp2
    go_ret
    exact ⟨rfl, rfl⟩
  | some x =>
    simp only [lt, hg, Option.getD_some] at c1
    have hx := (h.own hl (e := x) (by rw [hs]; simp [List.mem_of_getLast? hg])).1
    have hne : ¬ x = l := fun r => by subst r; exact h.dis hl hx
    have q := neq_of_eql (tp := 109) (eql_E (h.plain (.inr hx)) (h.plain (.inl hl)) false (by simpa using hne))
    clear hs hg
    go_enter Try.func76, Try.ntmps76
    go_wp2
    go_ret
    exact ⟨rfl, rfl⟩
end
end Bead
end Go.Proofs.Ytidnmanljdadaaa
