/- Arguments: a script that is handed in, read as a list of calls; what the bound on its bulk gives. -/
import Derived.Test.YtidnmanljdadaaaRows
import Derived.Test.YtidnmanljdadaaaMem
import Derived.ProofKit
import Derived.JoinedCond
import Derived.Lib.SmallJoins
import Derived.Below
import Derived.ChangeSame
import Derived.WideKeyArgs
import Derived.Deep.Slices
import Derived.Deep.Fields
set_option linter.all false
namespace Go.Proofs.Ytidnmanljdadaaa
open Go.Joins Go.ChangeShapes Go.WideShapes Go.ChangeAt Go.RowKit Go.Deep
namespace Bead

set_option maxRecDepth 100000
theorem cellsV : Try.prog.cellsOf 30 = 3 := by kernel_rfl
theorem cellsC : Try.prog.cellsOf 32 = 8 := by kernel_rfl
theorem cellsI : Try.prog.cellsOf 3 = 1 := by kernel_rfl
theorem cellsS : Try.prog.cellsOf 9 = 1 := by kernel_rfl
theorem own : ownKnob Try.prog.godebug = none := by kernel_rfl
theorem laidOut : laidOutB Try.prog = true := by kernel_rfl

instance : Inhabited Cl := ⟨⟨0, 0, 0, 0, 0, Vl.zero⟩⟩
instance : Inhabited Vl := ⟨Vl.zero⟩

section
variable {H : Type} {enc : TypeId × Value → H} {P : Program}
theorem post_of_below {f : Func} {s : ChangeSpec} {apart fresh handsOn again : Bool} {W W' : World} {args : Array Value} {v : Value} {ds gs : List (DataW H)} {before pa pv : List MemPlace}
    (hW : DataW.Whole enc P f.params.toList s.vars apart W args.toList ds gs before)
    (hres : ∀ (b : Nat) (sp : Nat → Bool) (hd : Bool), DataW.TrodAll enc P W' b sp hd f.resultTypes.toList (v.resultList f.resultTypes.size) (s.fn H (ds ++ gs)).results [])
    (hargs : ∀ sp : Nat → Bool, (∀ p ∈ before, sp p.block = true) → DataW.TrodAll enc P W' 0 sp true f.params.toList args.toList (s.fn H (ds ++ gs)).args pa)
    (hvars : ∀ sp : Nat → Bool, (∀ p ∈ before, sp p.block = true) → DataW.TrodVars enc P W' sp s.vars (s.fn H (ds ++ gs)).vars pv)
    (hps : before = pa ++ pv) (hb : Below W.heap.size W W')
    (hok : ∀ (j : Nat) (t : TypeId) (r : Value), f.resultTypes[j]? = some t → (v.resultList f.resultTypes.size)[j]? = some r → Value.okWide P W' .any 0 t r) :
    s.post enc P f apart fresh handsOn again W args v W' := by
  have hlt : ∀ p ∈ before, p.block < W.heap.size := fun p hp => hW.lt p hp
  have hold : ∀ p ∈ before, (fun b => decide (b < W.heap.size)) p.block = true := fun p hp => by simpa using hlt p hp
  refine ⟨ds, gs, before, [], pa, pv, hW, hres _ _ _, hargs _ hold, hvars _ hold, World.keptBut_mono (fun p hp => ⟨hp, ?_⟩) (hb.frame (· ∈ before)), fun _ => ?_⟩
  · rw [hps, List.mem_append] at hp
    exact Or.inr hp
  · obtain ⟨_, _, _, _, _, hz, hn⟩ := hW
    refine ⟨hok, _, _, ([] ++ pa) ++ pv, ⟨[] ++ pa, pv, trodAll_append (hargs _ (fun _ _ => rfl)) (hres _ _ _), hvars _ (fun _ _ => rfl), rfl, ?_, ?_⟩, ?_⟩
    · intro b off hp
      have hin : MemPlace.cell b off ∈ before := by rw [hps]; simpa using hp
      rw [hb.frozen (hlt _ hin)]
      exact hz b off hin
    · intro ha
      have := hn ha
      rw [hps] at this
      simpa using this
    · intro p hp _
      rw [hps]
      simpa using hp
end

theorem int_bounds {x : Int} (h : (Lit.int .i64 x).wf = true) : -9223372036854775808 ≤ x ∧ x ≤ 9223372036854775807 := by
  simpa [Lit.wf, IntKind.min, IntKind.max, IntKind.signed, IntKind.bits] using h

section
variable {H : Type} {enc : TypeId × Value → H} {W : World} {base : Nat} {spare : Nat → Bool} {held : Bool}
theorem read_vl {n : Nat} {cs : List Value} {x : DataW H × List MemPlace} (h : DataW.trod enc Try.prog W base spare held n 30 cs = some x) : ∃ v : Vl, v.ok ∧ v.s.size ≤ maxLen ∧ cs = v.cells := by
  obtain ⟨ys, m, _, _, hlen, hyl, hf⟩ := DataW.trod_struct Try.underlying30 h
  rw [cellsV] at hlen
  match cs, hlen with
  | [c0, c1, c2], _ =>
    match ys, hyl with
    | [y0, y1, y2], _ =>
      have k0 := hf 0 _ rfl
      change DataW.trod enc Try.prog W base spare held m 3 (([c0, c1, c2].drop 0).take (Try.prog.cellsOf 3)) = some y0 at k0
      rw [cellsI] at k0
      have k1 := hf 1 _ rfl
      change DataW.trod enc Try.prog W base spare held m 3 (([c0, c1, c2].drop 1).take (Try.prog.cellsOf 3)) = some y1 at k1
      rw [cellsI] at k1
      have k2 := hf 2 _ rfl
      change DataW.trod enc Try.prog W base spare held m 9 (([c0, c1, c2].drop 2).take (Try.prog.cellsOf 9)) = some y2 at k2
      rw [cellsS] at k2
      obtain ⟨a, e0, _, wa⟩ := DataW.trod_int Try.underlying3 k0
      obtain ⟨b, e1, _, wb⟩ := DataW.trod_int Try.underlying3 k1
      obtain ⟨s, e2, _, ws⟩ := DataW.trod_string Try.underlying9 k2
      simp at e0 e1 e2
      subst e0 e1 e2
      exact ⟨⟨a, b, s⟩, ⟨(int_bounds wa).1, (int_bounds wa).2, (int_bounds wb).1, (int_bounds wb).2⟩, ws, rfl⟩

theorem read_cl {n : Nat} {cs : List Value} {x : DataW H × List MemPlace} (h : DataW.trod enc Try.prog W base spare held n 32 cs = some x) : ∃ c : Cl, c.v.ok ∧ c.v.s.size ≤ maxLen ∧ cs = c.cells := by
  obtain ⟨ys, m, _, _, hlen, hyl, hf⟩ := DataW.trod_struct Try.underlying32 h
  rw [cellsC] at hlen
  match cs, hlen with
  | [c0, c1, c2, c3, c4, c5, c6, c7], _ =>
    match ys, hyl with
    | [y0, y1, y2, y3, y4, y5], _ =>
      have k0 := hf 0 _ rfl
      change DataW.trod enc Try.prog W base spare held m 3 (([c0, c1, c2, c3, c4, c5, c6, c7].drop 0).take (Try.prog.cellsOf 3)) = some y0 at k0
      rw [cellsI] at k0
      have k1 := hf 1 _ rfl
      change DataW.trod enc Try.prog W base spare held m 3 (([c0, c1, c2, c3, c4, c5, c6, c7].drop 1).take (Try.prog.cellsOf 3)) = some y1 at k1
      rw [cellsI] at k1
      have k2 := hf 2 _ rfl
      change DataW.trod enc Try.prog W base spare held m 3 (([c0, c1, c2, c3, c4, c5, c6, c7].drop 2).take (Try.prog.cellsOf 3)) = some y2 at k2
      rw [cellsI] at k2
      have k3 := hf 3 _ rfl
      change DataW.trod enc Try.prog W base spare held m 3 (([c0, c1, c2, c3, c4, c5, c6, c7].drop 3).take (Try.prog.cellsOf 3)) = some y3 at k3
      rw [cellsI] at k3
      have k4 := hf 4 _ rfl
      change DataW.trod enc Try.prog W base spare held m 3 (([c0, c1, c2, c3, c4, c5, c6, c7].drop 4).take (Try.prog.cellsOf 3)) = some y4 at k4
      rw [cellsI] at k4
      have k5 := hf 5 _ rfl
      change DataW.trod enc Try.prog W base spare held m 30 (([c0, c1, c2, c3, c4, c5, c6, c7].drop 5).take (Try.prog.cellsOf 30)) = some y5 at k5
      rw [cellsV] at k5
      obtain ⟨a0, e0, _, _⟩ := DataW.trod_int Try.underlying3 k0
      obtain ⟨a1, e1, _, _⟩ := DataW.trod_int Try.underlying3 k1
      obtain ⟨a2, e2, _, _⟩ := DataW.trod_int Try.underlying3 k2
      obtain ⟨a3, e3, _, _⟩ := DataW.trod_int Try.underlying3 k3
      obtain ⟨a4, e4, _, _⟩ := DataW.trod_int Try.underlying3 k4
      obtain ⟨v, hv, hs, e5⟩ := read_vl k5
      simp [Vl.cells] at e0 e1 e2 e3 e4 e5
      obtain ⟨e5, e6, e7⟩ := e5
      subst e0 e1 e2 e3 e4 e5 e6 e7
      exact ⟨⟨a0, a1, a2, a3, a4, v⟩, hv, hs, rfl⟩

/-- A script that is handed in. -/
theorem open_calls {r : Reach} {b0 : Nat} {v : Value} {d : DataW H} {p : List MemPlace} (hv : Value.okWide Try.prog W r b0 22 v) (h : DataW.Trod enc Try.prog W base spare held 22 v d p) :
    ∃ cs : List Cl, Sl W v cs.length (cs.flatMap Cl.cells) ∧ (∀ c ∈ cs, c.v.ok ∧ c.v.s.size ≤ maxLen) ∧ Value.fair v ∧ cs.length ≤ Rows.uptoBulk d := by
  obtain ⟨a, len, cap, rfl⟩ := okWide_slice Try.underlying22 hv
  obtain ⟨fuel, hf⟩ := h
  rcases open_slice Try.underlying22 hf with ⟨e, hx⟩ | ⟨a', len', cap', m, n, D, Pl, e, hb, hl, hm, hmm, hx, hi⟩
  · simp [Value.cells] at e
    obtain ⟨rfl, rfl, rfl⟩ := e
    exact ⟨[], Sl.nil _, by simp, fun n c q => by simp at q; exact q.2.symm, by simp⟩
  · simp [Value.cells] at e
    obtain ⟨rfl, rfl, rfl⟩ := e
    have hlm : len ≤ m := by rw [hmm]; split <;> omega
    rw [cellsC] at hi
    obtain ⟨f, hf2⟩ := choose_lt (n := len) (p := fun i (c : Cl) => (c.v.ok ∧ c.v.s.size ≤ maxLen) ∧ ∀ t y, c.cells[t]? = some y → W.cell? (a'.add (i * 8 + t)) = some y) (fun i him => by
      obtain ⟨cs', hc, ht⟩ := hi i (by omega)
      obtain ⟨_, hcl, hat⟩ := World.cells?_some hc
      obtain ⟨c, h1, h2, rfl⟩ := read_cl ht
      refine ⟨c, ⟨h1, h2⟩, fun t y hy => ?_⟩
      have ht8 : t < 8 := (List.getElem?_eq_some_iff.1 hy).1
      rw [← Go.Deep.add_add, hat t ht8, hy])
    have hlen : ((List.range len).map f).length = len := by simp
    have hget : ∀ i, i < len → ((List.range len).map f)[i]? = some (f i) := fun i hi => by simp [hi]
    refine ⟨(List.range len).map f, ?_, ?_, fun n c q => by simp at q, ?_⟩
    · rw [hlen]
      refine ⟨_, _, rfl, fun hne => ?_⟩
      have hpos : 0 < len := by
        rcases Nat.eq_zero_or_pos len with q | q
        · subst q; simp at hne
        · exact q
      obtain ⟨b, o, spot⟩ := a'
      have h0 := (hf2 0 hpos).2 0 _ rfl
      have hspot : spot = none := by simpa [Addr.add] using World.cell?_spot h0
      subst hspot
      refine ⟨b, o, rfl, fun k x hx => ?_⟩
      have hkl : k < len * 8 := by
        have := (List.getElem?_eq_some_iff.1 hx).1
        rw [flat_length _ 8 Cl.cells_length, hlen] at this
        exact this
      have hk : k / 8 * 8 + k % 8 = k := by omega
      have hi8 : k / 8 < len := by omega
      rw [← hk, flat_get Cl.cells 8 Cl.cells_length _ (k / 8) (k % 8) _ (hget _ hi8) (by omega)] at hx
      have := (hf2 (k / 8) hi8).2 _ _ hx
      rw [hk] at this
      rw [← this]
      unfold Addr.add
      split
      · rename_i q; subst q; rfl
      · rfl
    · intro c hc
      simp only [List.mem_map, List.mem_range] at hc
      obtain ⟨i, hi, rfl⟩ := hc
      exact (hf2 i hi).1
    · simp only [Prod.mk.injEq] at hx
      rw [hx.1, hlen]
      have : ∀ l : List (DataW H), l.length ≤ Rows.uptoBulkAll l := by
        intro l
        induction l with
        | nil => simp [Rows.uptoBulkAll]
        | cons y r ih =>
          have h1 : 1 ≤ Rows.uptoBulk y := by
            cases y with
            | lit l => cases l <;> simp [Rows.uptoBulk]
            | _ => simp [Rows.uptoBulk]
          simp only [Rows.uptoBulkAll, List.length_cons]; omega
      have := this ((List.range len).map D)
      simp only [Rows.uptoBulk]
      simp at this
      omega
end
end Bead
end Go.Proofs.Ytidnmanljdadaaa

/- What a statement's proof needs beside the walk: the bound, and arguments that stay. -/
namespace Go.Proofs.Ytidnmanljdadaaa
open Go.Joins Go.ChangeShapes Go.WideShapes Go.ChangeAt Go.RowKit
namespace Bead
set_option maxRecDepth 100000

theorem bulk_bound {H : Type} {l : List (DataW H)} (hk : Rows.uptoSmall H l = true) : Rows.uptoBulkAll l ≤ 1048576 := of_decide_eq_true hk
theorem bulk_one {H : Type} {d : DataW H} (hk : Rows.uptoSmall H [d] = true) : Rows.uptoBulk d ≤ 1048576 := by
  have := bulk_bound hk
  simp only [Rows.uptoBulkAll] at this
  omega

/-- An argument below the heap's old size is read again. -/
theorem stays {H : Type} {enc : TypeId × Value → H} {W W' : World} {t : TypeId} {v : Value} {d : DataW H} {ps before : List MemPlace} (hr : Try.prog.readableRec t = true) (hrow : t < Try.prog.types.size) (h : DataW.Trod enc Try.prog W 0 (fun _ => true) true t v d ps)
    (hb : Below W.heap.size W W') (hlt : ∀ x ∈ ps, x.block < W.heap.size) {sp : Nat → Bool} (hs : ∀ p ∈ ps, sp p.block = true) : DataW.Trod enc Try.prog W' 0 sp true t v d ps :=
  WideElems.Trod_stays laidOut hr hrow h (fun x hx => hb.same (hlt x hx)) hs

theorem rdCalls : Try.prog.readableRec 22 = true := by kernel_rfl
theorem rowCalls : 22 < Try.prog.types.size := of_decide_eq_true (by kernel_rfl)
end Bead
end Go.Proofs.Ytidnmanljdadaaa

/- Arguments: numbers, values, calls, and slices of them, as they are handed in. -/
namespace Go.Proofs.Ytidnmanljdadaaa
open Go.Joins Go.ChangeShapes Go.WideShapes Go.ChangeAt Go.RowKit Go.Deep
namespace Bead
set_option maxRecDepth 100000

theorem rdInt : Try.prog.readableRec 3 = true := by kernel_rfl
theorem rowInt : 3 < Try.prog.types.size := of_decide_eq_true (by kernel_rfl)
theorem rdValue : Try.prog.readableRec 30 = true := by kernel_rfl
theorem rowValue : 30 < Try.prog.types.size := of_decide_eq_true (by kernel_rfl)
theorem rdCall : Try.prog.readableRec 32 = true := by kernel_rfl
theorem rowCall : 32 < Try.prog.types.size := of_decide_eq_true (by kernel_rfl)

section
variable {H : Type} {enc : TypeId × Value → H} {W : World} {base : Nat} {spare : Nat → Bool} {held : Bool}
theorem open_num {r : Reach} {b0 : Nat} {v : Value} {d : DataW H} {p : List MemPlace} (hv : Value.okWide Try.prog W r b0 3 v) (h : DataW.Trod enc Try.prog W base spare held 3 v d p) :
    ∃ n : Int, (-9223372036854775808 ≤ n ∧ n ≤ 9223372036854775807) ∧ v = .int .i64 n := by
  obtain ⟨n, h1, _, _, h4⟩ := open_int Try.underlying3 hv h
  exact ⟨n, int_bounds h4, h1⟩
theorem open_value {r : Reach} {b0 : Nat} {v : Value} {d : DataW H} {p : List MemPlace} (hv : Value.okWide Try.prog W r b0 30 v) (h : DataW.Trod enc Try.prog W base spare held 30 v d p) :
    ∃ x : Vl, x.ok ∧ v = x.agg := by
  obtain ⟨cs, rfl, _⟩ := okWide_struct Try.underlying30 hv
  obtain ⟨fuel, hf⟩ := h
  obtain ⟨x, h1, _, h3⟩ := read_vl hf
  refine ⟨x, h1, ?_⟩
  have : cs = x.cells.toArray := by cases cs; simpa [Value.cells] using h3
  rw [this]; rfl
theorem open_call {r : Reach} {b0 : Nat} {v : Value} {d : DataW H} {p : List MemPlace} (hv : Value.okWide Try.prog W r b0 32 v) (h : DataW.Trod enc Try.prog W base spare held 32 v d p) :
    ∃ c : Cl, c.v.ok ∧ v = .agg c.cells.toArray := by
  obtain ⟨cs, rfl, _⟩ := okWide_struct Try.underlying32 hv
  obtain ⟨fuel, hf⟩ := h
  obtain ⟨x, h1, _, h3⟩ := read_cl hf
  refine ⟨x, h1, ?_⟩
  have : cs = x.cells.toArray := by cases cs; simpa [Value.cells] using h3
  rw [this]

/-- A slice that is handed in, whatever its elements. -/
theorem open_row {α : Type} [Inhabited α] {t e : TypeId} (ht : Try.prog.underlying t = some (.slice e)) {sz : Nat} (hsz : 0 < sz) (hce : Try.prog.cellsOf e = sz) (f : α → List Value) (hf : ∀ x, (f x).length = sz) (ok : α → Prop)
    (rd : ∀ (n : Nat) (cs : List Value) (x : DataW H × List MemPlace), DataW.trod enc Try.prog W base spare held n e cs = some x → ∃ a, ok a ∧ cs = f a)
    {r : Reach} {b0 : Nat} {v : Value} {d : DataW H} {p : List MemPlace} (hv : Value.okWide Try.prog W r b0 t v) (h : DataW.Trod enc Try.prog W base spare held t v d p) :
    ∃ L : List α, Sl W v L.length (L.flatMap f) ∧ (∀ a ∈ L, ok a) ∧ Value.fair v ∧ L.length ≤ Rows.uptoBulk d := by
  obtain ⟨a, len, cap, rfl⟩ := okWide_slice ht hv
  obtain ⟨fuel, hfu⟩ := h
  rcases open_slice ht hfu with ⟨e, hx⟩ | ⟨a', len', cap', m, n, D, Pl, e, hb, hl, hm, hmm, hx, hi⟩
  · simp [Value.cells] at e
    obtain ⟨rfl, rfl, rfl⟩ := e
    exact ⟨[], Sl.nil _, by simp, fun n c q => by simp at q; exact q.2.symm, by simp⟩
  · simp [Value.cells] at e
    obtain ⟨rfl, rfl, rfl⟩ := e
    have hlm : len ≤ m := by rw [hmm]; split <;> omega
    rw [hce] at hi
    obtain ⟨g, hg⟩ := choose_lt (n := len) (p := fun i (c : α) => ok c ∧ ∀ t y, (f c)[t]? = some y → W.cell? (a'.add (i * sz + t)) = some y) (fun i him => by
      obtain ⟨cs', hc, ht⟩ := hi i (by omega)
      obtain ⟨_, hcl, hat⟩ := World.cells?_some hc
      obtain ⟨c, h1, rfl⟩ := rd _ _ _ ht
      refine ⟨c, h1, fun t y hy => ?_⟩
      have ht8 : t < sz := by have := (List.getElem?_eq_some_iff.1 hy).1; rw [hf] at this; exact this
      rw [← Go.Deep.add_add, hat t ht8, hy])
    have hlen : ((List.range len).map g).length = len := by simp
    have hget : ∀ i, i < len → ((List.range len).map g)[i]? = some (g i) := fun i hi => by simp [hi]
    refine ⟨(List.range len).map g, ?_, ?_, fun n c q => by simp at q, ?_⟩
    · rw [hlen]
      refine ⟨_, _, rfl, fun hne => ?_⟩
      have hpos : 0 < len := by
        rcases Nat.eq_zero_or_pos len with q | q
        · subst q; simp at hne
        · exact q
      obtain ⟨b, o, spot⟩ := a'
      obtain ⟨y0, hy0⟩ : ∃ y, (f (g 0))[0]? = some y := ⟨_, List.getElem?_eq_getElem (by rw [hf]; exact hsz)⟩
      have h0 := (hg 0 hpos).2 0 _ hy0
      have hspot : spot = none := by simpa [Addr.add] using World.cell?_spot h0
      subst hspot
      refine ⟨b, o, rfl, fun k x hx => ?_⟩
      have hkl : k < len * sz := by
        have := (List.getElem?_eq_some_iff.1 hx).1
        rw [flat_length _ sz hf, hlen] at this
        exact this
      have hk : k / sz * sz + k % sz = k := Nat.div_add_mod' k sz
      have hi8 : k / sz < len := Nat.div_lt_of_lt_mul (by rw [Nat.mul_comm]; exact hkl)
      rw [← hk, flat_get f sz hf _ (k / sz) (k % sz) _ (hget _ hi8) (Nat.mod_lt _ hsz)] at hx
      have := (hg (k / sz) hi8).2 _ _ hx
      rw [hk] at this
      rw [← this]
      unfold Addr.add
      split
      · rename_i q; subst q; rfl
      · rfl
    · intro c hc
      simp only [List.mem_map, List.mem_range] at hc
      obtain ⟨i, hi, rfl⟩ := hc
      exact (hg i hi).1
    · simp only [Prod.mk.injEq] at hx
      rw [hx.1, hlen]
      have : ∀ l : List (DataW H), l.length ≤ Rows.uptoBulkAll l := by
        intro l
        induction l with
        | nil => simp [Rows.uptoBulkAll]
        | cons y r ih =>
          have h1 : 1 ≤ Rows.uptoBulk y := by
            cases y with
            | lit l => cases l <;> simp [Rows.uptoBulk]
            | _ => simp [Rows.uptoBulk]
          simp only [Rows.uptoBulkAll, List.length_cons]; omega
      have := this ((List.range len).map D)
      simp only [Rows.uptoBulk]
      simp at this
      omega
end
end Bead
end Go.Proofs.Ytidnmanljdadaaa
