/- FnKeepsValues: the given statement, proved from the walk in KeepsValues. -/
import Derived.Test.YthpgkmkdknmibaaRows
import Derived.Test.YthpgkmkdknmibaaKeepsValues
import Derived.ProofKit
import Derived.Lib.SmallJoins
import Derived.Below
import Derived.ChangeSame
namespace Go.Proofs.Ythpgkmkdknmibaa
open Go.Joins Go.ChangeShapes Go.WideShapes Go.ChangeAt Go.RowKit
namespace Bead
set_option linter.unusedVariables false

theorem own : ownKnob Try.prog.godebug = none := by kernel_rfl

section
variable {H : Type} {enc : TypeId × Value → H} {P : Program}
theorem post_of_below {f : Func} {s : ChangeSpec} {apart fresh handsOn again : Bool} {W W' : World} {args : Array Value} {v : Value} {ds gs : List (DataW H)} {before pa pv : List MemPlace}
    (hW : DataW.Whole enc P f.params.toList s.vars apart W args.toList ds gs before)
    (hres : ∀ (b : Nat) (sp : Nat → Bool) (hd : Bool), DataW.TrodAll enc P W' b sp hd f.resultTypes.toList (v.resultList f.resultTypes.size) (s.fn H (ds ++ gs)).results [])
    (hargs : ∀ sp : Nat → Bool, (∀ p ∈ before, sp p.block = true) → DataW.TrodAll enc P W' 0 sp true f.params.toList args.toList (s.fn H (ds ++ gs)).args pa)
    (hvars : ∀ sp : Nat → Bool, (∀ p ∈ before, sp p.block = true) → DataW.TrodVars enc P W' sp s.vars (s.fn H (ds ++ gs)).vars pv)
    (hps : before = pa ++ pv) (hb : Below W.heap.size W W')
    (hok : ∀ (j : Nat) (t : TypeId) (r : Value), f.resultTypes[j]? = some t → (v.resultList f.resultTypes.size)[j]? = some r → Value.okWide P W' .any 0 t r) :
    s.post enc P f apart fresh handsOn again W args v W' := by
  have hlt : ∀ p ∈ before, p.block < W.heap.size := fun p hp => hW.lt p hp
  have hold : ∀ p ∈ before, (fun b => decide (b < W.heap.size)) p.block = true := fun p hp => by simpa using hlt p hp
  refine ⟨ds, gs, before, [], pa, pv, hW, hres _ _ _, hargs _ hold, hvars _ hold, World.keptBut_mono (fun p hp => ⟨hp, ?_⟩) (hb.frame (· ∈ before)), fun _ => ?_⟩
  · rw [hps, List.mem_append] at hp
    exact Or.inr hp
  · obtain ⟨_, _, _, _, _, hz, hn⟩ := hW
    refine ⟨hok, _, _, ([] ++ pa) ++ pv, ⟨[] ++ pa, pv, trodAll_append (hargs _ (fun _ _ => rfl)) (hres _ _ _), hvars _ (fun _ _ => rfl), rfl, ?_, ?_⟩, ?_⟩
    · intro b off hp
      have hin : MemPlace.cell b off ∈ before := by rw [hps]; simpa using hp
      rw [hb.frozen (hlt _ hin)]
      exact hz b off hin
    · intro ha
      have := hn ha
      rw [hps] at this
      simpa using this
    · intro p hp _
      rw [hps]
      simpa using hp
end

theorem int_bounds {x : Int} (h : (Lit.int .i64 x).wf = true) : -9223372036854775808 ≤ x ∧ x ≤ 9223372036854775807 := by
  simpa [Lit.wf, IntKind.min, IntKind.max, IntKind.signed, IntKind.bits] using h

/-- A value handed in, opened. -/
theorem open_vl {H : Type} {enc : TypeId × Value → H} {w : World} {r : Reach} {b0 base : Nat} {spare : Nat → Bool} {held : Bool} {v : Value} {d : DataW H} {p : List MemPlace}
    (hv : Value.okWide Try.prog w r b0 23 v) (h : DataW.Trod enc Try.prog w base spare held 23 v d p) :
    ∃ x : Vl, x.ok ∧ x.s.size ≤ maxLen ∧ v = x.agg ∧ d = .agg [.lit (.int .i64 x.kind), .lit (.int .i64 x.n), .lit (.string x.s.data.toList)] ∧ p = [] ∧ 
      ∀ (W' : World) (b' : Nat) (sp : Nat → Bool) (hd : Bool), DataW.Trod enc Try.prog W' b' sp hd 23 v d [] := by
  obtain ⟨c0, c1, c2, y0, y1, y2, m, rfl, rfl, rfl, h0, h1, h2⟩ := open_agg3 Try.underlying23 (by kernel_rfl) (by kernel_rfl) hv h
  obtain ⟨a, e0, rfl, wa⟩ := DataW.trod_int Try.underlying3 h0
  obtain ⟨b, e1, rfl, wb⟩ := DataW.trod_int Try.underlying3 h1
  obtain ⟨s, e2, rfl, ws⟩ := DataW.trod_string Try.underlying9 h2
  simp at e0 e1 e2
  subst e0 e1 e2
  refine ⟨⟨a, b, s⟩, ⟨(int_bounds wa).1, (int_bounds wa).2, (int_bounds wb).1, (int_bounds wb).2⟩, ws, rfl, rfl, rfl, fun W' b' sp hd => ?_⟩
  simpa using shut_agg3 (enc := enc) (w := W') (base := b') (spare := sp) (held := hd) (y0 := (.lit (.int .i64 a), [])) (y1 := (.lit (.int .i64 b), [])) (y2 := (.lit (.string s.data.toList), [])) Try.underlying23 (by kernel_rfl) (by kernel_rfl) ⟨1, by simp [DataW.trod, Try.underlying3, wa]⟩ ⟨1, by simp [DataW.trod, Try.underlying3, wb]⟩ ⟨1, by simp [DataW.trod, Try.underlying9, ws]⟩

set_option maxRecDepth 100000 in
theorem keeps_lifted (os : Os) (started : os.Started) (H : Type) (enc : TypeId × Value → H) :
    ReturnsInHanded {} Try.checked os 3 .any (Rows.fnKeepsValuesSpec.pre6 enc Try.prog Try.f3 Rows.fnKeepsValuesRow.domain false) (Rows.fnKeepsValuesSpec.post enc Try.prog Try.f3 false true false false) := by
  refine returnsInHanded_of_change (C := Try.checked) own started (by kernel_rfl) Try.func3
    (ChangeSpec.witness6 (enc := enc) (C := Try.checked) false ⟨#[], #[.agg #[.int .i64 0, .int .i64 0, .string ⟨#[]⟩], .agg #[.int .i64 0, .int .i64 0, .string ⟨#[]⟩]], []⟩ 8 (by kernel_rfl) (by kernel_rfl) (by kernel_rfl) (by kernel_rfl)) ?_
  intro W base args ds gs before hval0 hW hcnd _
  have hval : ∀ (j : Nat) t v, Try.f3.params[j]? = some t → args[j]? = some v → Value.okWide Try.prog W .any base t v := hval0
  have hW' := hW
  obtain ⟨p, q, hA0, hV, rfl, hfz, hnd⟩ := hW
  have hA : DataW.TrodAll enc Try.prog W 0 (fun _ => true) true Try.f3.params.toList args.toList ds p := hA0
  rw [Try.params3] at hA hval
  obtain ⟨v0, v1, d0, d1, p0, p1, rfl, rfl, rfl, h0, h1⟩ := trodAll_two hA
  obtain ⟨rfl, rfl⟩ := trodVars_none hV
  obtain ⟨x, okx, _, ex, ed, rfl, hx⟩ := open_vl (hval 0 23 v0 rfl rfl) h0
  obtain ⟨y, oky, _, ey, ee, rfl, hy⟩ := open_vl (hval 1 23 v1 rfl rfl) h1
  clear hA0 hval0
  simp only [List.append_nil] at hW'
  subst ex ey
  refine (keeps_c x y okx oky W).mono fun e W' ⟨he, hb⟩ => ?_
  subst he
  exact ⟨_, rfl, post_of_below (pa := []) (pv := []) hW' (fun _ _ _ => trodAll_mk1 (shut_bool Try.underlying4 _)) (fun sp _ => trodAll_mk2 (hx _ _ sp _) (hy _ _ sp _)) (fun _ _ => rfl) rfl
    hb (ok_one (by kernel_rfl) rfl (okWide_bool_mk Try.underlying4 _))⟩
end Bead

theorem fnKeepsValues_holds : Rows.FnKeepsValuesSaid :=
  OpenClaim.holds_of_wide 3 Try.f3 rfl rfl rfl rfl rfl rfl rfl ⟨rfl, rfl, rfl, rfl, rfl⟩ rfl rfl rfl rfl rfl (by kernel_rfl) Try.func3 (by kernel_rfl)
    (of_decide_eq_true (by kernel_rfl)) (by unfold Func.isWrapper; first | (rw [if_pos (by decide +kernel)]; kernel_rfl) | (rw [if_neg (by decide +kernel)]; exact ⟨rfl, rfl⟩))
    (fun os started H enc _ => Bead.keeps_lifted os started H enc)

end Go.Proofs.Ythpgkmkdknmibaa
