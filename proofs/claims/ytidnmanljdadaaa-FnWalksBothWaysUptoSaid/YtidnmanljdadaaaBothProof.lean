/- FnWalksBothWays: the given statement (its second form), out of the walk. -/
import Derived.Test.YtidnmanljdadaaaArgs
import Derived.Test.YtidnmanljdadaaaBoth
set_option linter.all false
namespace Go.Proofs.Ytidnmanljdadaaa
open Go.Joins Go.ChangeShapes Go.WideShapes Go.ChangeAt Go.RowKit
namespace Bead
set_option maxRecDepth 100000

theorem both_contract (H : Type) (enc : TypeId × Value → H) (W : World) (base : Nat) (args : Array Value) (ds gs : List (DataW H)) (before : List MemPlace)
    (hval0 : ∀ (j : Nat) t v, Try.f7.params[j]? = some t → args[j]? = some v → Value.okWide Try.prog W .any base t v)
    (hW : DataW.Whole enc Try.prog Try.f7.params.toList Rows.fnWalksBothWaysSpec.vars false W args.toList ds gs before) (hk : Rows.uptoSmall H (ds ++ gs) = true) :
    Calls Try.prog 7 args W fun e W' => ∃ v, e = .returned v ∧ Rows.fnWalksBothWaysSpec.post enc Try.prog Try.f7 false true false false W args v W' := by
  have hval : ∀ (j : Nat) t v, Try.f7.params[j]? = some t → args[j]? = some v → Value.okWide Try.prog W .any base t v := hval0
  have hlt := hW.lt
  have hW' := hW
  obtain ⟨p, q, hA0, hV, rfl, hfz, hnd⟩ := hW
  have hA : DataW.TrodAll enc Try.prog W 0 (fun _ => true) true Try.f7.params.toList args.toList ds p := hA0
  rw [Try.params7] at hA hval
  obtain ⟨v0, vs0, d0, ds0, p0, q0, hargs0, rfl, rfl, h0, r0⟩ := trodAll_cons hA
  obtain ⟨rfl, rfl, rfl⟩ := trodAll_nil r0
  obtain rfl : args = #[v0] := by cases args; simp_all
  obtain ⟨rfl, rfl⟩ := trodVars_none hV
  obtain ⟨cs0, hsl0, hok0, hfair0, hbulk0⟩ := open_calls (hval 0 22 v0 rfl rfl) h0
  clear hA0 hval0
  simp only [List.append_nil] at hW' hk hlt
  have hbb := bulk_bound hk
  simp only [Rows.uptoBulkAll] at hbb
  have hlt0 : ∀ x ∈ p0, x.block < W.heap.size := fun x hx => hlt x (hx)
  refine (both_c ⟨hsl0, hfair0, fun c hc => (hok0 c hc).1⟩ (by omega)).mono fun e W' ⟨he, hb⟩ => ?_
  subst he
  exact ⟨_, rfl, post_of_below (pa := p0) (pv := []) hW' (fun _ _ _ => trodAll_mk1 (shut_bool Try.underlying4 _)) (fun sp hsp => trodAll_mk1 (stays (before := p0) rdCalls rowCalls h0 hb hlt0 (fun x hx => hsp x (hx)))) (fun _ _ => rfl) (by simp)
    hb (ok_one (by kernel_rfl) rfl (okWide_bool_mk Try.underlying4 _))⟩

theorem both_lifted (os : Os) (started : os.Started) (H : Type) (enc : TypeId × Value → H) (F : Stop.Interp) :
    ReturnsInHanded {} Try.checked os 7 .any ((Rows.OpenSpec.upto Rows.fnWalksBothWaysSpec).pre6 enc Try.prog Try.f7 Rows.fnWalksBothWaysUptoRow.domain false) (((Rows.OpenSpec.upto Rows.fnWalksBothWaysSpec).at F).post enc Try.prog Try.f7 false true false false) := by
  refine returnsInHanded_of_cond (C := Try.checked) (s := Rows.OpenSpec.upto Rows.fnWalksBothWaysSpec) (k := Rows.uptoSmall) rfl own started (by kernel_rfl) Try.func7
    (OpenSpec.witness (enc := enc) (C := Try.checked) (s := Rows.OpenSpec.upto Rows.fnWalksBothWaysSpec) (k := Rows.uptoSmall) rfl false ⟨#[], #[.slice none 0 0], []⟩ 8 (by kernel_rfl) (by kernel_rfl) (by kernel_rfl)
      (x := ([.nil], [], [])) (by kernel_rfl) rfl (by kernel_rfl)) ?_
  intro W base args ds gs before hval hW _ hk _
  exact both_contract H enc W base args ds gs before hval hW hk
end Bead

theorem fnWalksBothWaysUpto_holds : Rows.FnWalksBothWaysUptoSaid :=
  OpenClaim.holds_of_cond 7 Try.f7 rfl rfl rfl rfl rfl rfl rfl ⟨rfl, rfl, rfl, rfl, rfl⟩ rfl rfl rfl rfl rfl (by kernel_rfl) Try.func7 (by kernel_rfl)
    (of_decide_eq_true (by kernel_rfl)) (by unfold Func.isWrapper; first | (rw [if_pos (by decide +kernel)]; kernel_rfl) | (rw [if_neg (by decide +kernel)]; exact ⟨rfl, rfl⟩))
    (fun os started H enc _ F => Bead.both_lifted os started H enc F)
end Go.Proofs.Ytidnmanljdadaaa
