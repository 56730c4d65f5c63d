/- Rows of numbers, of flags and of values that are handed in. -/
import Derived.Test.YtidnmanljdadaaaArgs
set_option linter.all false
namespace Go.Proofs.Ytidnmanljdadaaa
open Go.Joins Go.ChangeShapes Go.WideShapes Go.ChangeAt Go.RowKit
namespace Bead
set_option maxRecDepth 100000

theorem rdInts : Try.prog.readableRec 27 = true := by kernel_rfl
theorem rowInts : 27 < Try.prog.types.size := of_decide_eq_true (by kernel_rfl)
theorem rdBools : Try.prog.readableRec 23 = true := by kernel_rfl
theorem rowBools : 23 < Try.prog.types.size := of_decide_eq_true (by kernel_rfl)
theorem rdValues : Try.prog.readableRec 37 = true := by kernel_rfl
theorem rowValues : 37 < Try.prog.types.size := of_decide_eq_true (by kernel_rfl)
section
variable {H : Type} {enc : TypeId × Value → H} {W : World} {base : Nat} {spare : Nat → Bool} {held : Bool}
theorem open_nats {r : Reach} {b0 : Nat} {v : Value} {d : DataW H} {p : List MemPlace} (hv : Value.okWide Try.prog W r b0 27 v) (h : DataW.Trod enc Try.prog W base spare held 27 v d p) :
    ∃ L : List Int, Sl W v L.length (L.flatMap fun x => [.int .i64 x]) ∧ (∀ a ∈ L, -9223372036854775808 ≤ a ∧ a ≤ 9223372036854775807) ∧ Value.fair v ∧ L.length ≤ Rows.uptoBulk d :=
  open_row Try.underlying27 (sz := 1) (by decide) (by kernel_rfl) (fun (x : Int) => [Value.int .i64 x]) (fun _ => rfl) (fun a => -9223372036854775808 ≤ a ∧ a ≤ 9223372036854775807)
    (fun n cs x hx => by obtain ⟨a, e, _, wa⟩ := DataW.trod_int Try.underlying3 hx; exact ⟨a, int_bounds wa, e⟩) hv h
theorem open_flags {r : Reach} {b0 : Nat} {v : Value} {d : DataW H} {p : List MemPlace} (hv : Value.okWide Try.prog W r b0 23 v) (h : DataW.Trod enc Try.prog W base spare held 23 v d p) :
    ∃ L : List Bool, Sl W v L.length (L.flatMap fun x => [.bool x]) ∧ Value.fair v ∧ L.length ≤ Rows.uptoBulk d := by
  have := open_row Try.underlying23 (sz := 1) (by decide) (by kernel_rfl) (fun (x : Bool) => [Value.bool x]) (fun _ => rfl) (fun _ => True)
    (fun n cs x hx => by obtain ⟨a, e, _⟩ := DataW.trod_bool Try.underlying4 hx; exact ⟨a, trivial, e⟩) hv h
  obtain ⟨L, h1, _, h3, h4⟩ := this
  exact ⟨L, h1, h3, h4⟩
theorem open_values {r : Reach} {b0 : Nat} {v : Value} {d : DataW H} {p : List MemPlace} (hv : Value.okWide Try.prog W r b0 37 v) (h : DataW.Trod enc Try.prog W base spare held 37 v d p) :
    ∃ L : List Vl, Sl W v L.length (L.flatMap Vl.cells) ∧ (∀ a ∈ L, a.ok) ∧ Value.fair v ∧ L.length ≤ Rows.uptoBulk d :=
  haveI : Inhabited Vl := ⟨Vl.zero⟩
  open_row Try.underlying37 (sz := 3) (by decide) (by kernel_rfl) Vl.cells (fun _ => rfl) (fun a => a.ok)
    (fun n cs x hx => by obtain ⟨a, h1, _, e⟩ := read_vl hx; exact ⟨a, h1, e⟩) hv h
end
end Bead
end Go.Proofs.Ytidnmanljdadaaa
