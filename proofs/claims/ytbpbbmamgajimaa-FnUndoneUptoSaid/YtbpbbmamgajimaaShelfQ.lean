/- The kit's contract of slices.Reverse of rows of structs, at this program, in our own words. -/
import Derived.Test.YtbpbbmamgajimaaShelf
import Derived.Shelf.SlicesQ.Reverse
set_option linter.all false
namespace Go.Proofs.Ytbpbbmamgajimaa
open Go.RowKit
namespace Bead
set_option maxRecDepth 100000

theorem flatK_list {α : Type} [Inhabited α] (f : α → List Value) (k : Nat) (hf : ∀ x, (f x).length = k) (L : List α) : Go.Sort.flatK f k L.toArray = (L.flatMap f).toArray := by
  refine Go.Sort.ext_get! (by simp [flat_length f k hf]) (fun t ht => ?_)
  have ht' : t < L.length * k := by simpa using ht
  have k0 : 0 < k := by
    rcases Nat.eq_zero_or_pos k with h | h
    · subst h; simp at ht'
    · exact h
  have h1 : t / k < L.length := Nat.div_lt_of_lt_mul (by rw [Nat.mul_comm]; exact ht')
  have h2 : t % k < k := Nat.mod_lt _ k0
  rw [Go.Sort.get_flatK _ _ _ t (by simpa using ht')]
  have e := flat_get f k hf L (t / k) (t % k) _ (List.getElem?_eq_getElem h1) h2
  rw [Nat.div_add_mod'] at e
  have h3 : t % k < (f L[t / k]).length := by rw [hf]; exact h2
  rw [List.getElem?_eq_getElem h3] at e
  rw [getElem!_pos L.toArray (t / k) (by simpa using h1)]
  simp only [List.getElem_toArray]
  rw [getElem!_pos (f L[t / k]) (t % k) h3]
  have h4 : t < (L.flatMap f).length := by rw [flat_length f k hf]; exact ht'
  rw [getElem!_pos (L.flatMap f).toArray t (by simpa using h4)]
  simp only [List.getElem_toArray]
  rw [List.getElem?_eq_getElem h4] at e
  exact (Option.some.inj e).symm
theorem own_overK {w w' : World} {B : Nat} {e : TypeId} {g n sz cap : Nat} {xs ys : List Value} (h : w.ownsRow B e sz (.slice (some ⟨g, 0, none⟩) n cap) n xs) (hy : ys.length = n * sz) (hw : w'.heap = (w.setCells g 0 ys).heap) :
    w'.ownsRow B e sz (.slice (some ⟨g, 0, none⟩) n cap) n ys := by
  rcases h.2 with ⟨q, _⟩ | ⟨g', cap', cur, hv, h1, h2, h3, h4, h5, h6⟩
  · simp at q
  simp only [Value.slice.injEq, Option.some.injEq, Addr.mk.injEq] at hv
  obtain ⟨⟨rfl, _⟩, _, rfl⟩ := hv
  have hle : ys.length ≤ cur.size := by rw [hy, h5]; exact Nat.mul_le_mul_right _ h3
  refine ⟨hy, .inr ⟨g, cap, over cur 0 ys, rfl, h1, ?_, h3, h4, by rw [over_size]; exact h5, ?_⟩⟩
  · rw [hw]; exact over_heap g ys 0 h2
  · rw [over_take hle (by omega), List.take_of_length_le (by omega)]
theorem reverse_gen {α : Type} [Inhabited α] {ρ : Go.Shelf.Ren} (LY : SlLaysE0.n35 Try.prog ρ) (k : Nat) (hk0 : 0 < k) (aE : ∀ w, (isAgg (ρ.t 23)).run Try.prog w = .ok true w) (zE : ∀ w, (Go.sizeOf (ρ.t 23)).run Try.prog w = .ok k w) (f : α → List Value) (hf : ∀ x, (f x).length = k) (h1 : ∀ x, ∀ v ∈ f x, v.oneCell' = true)
    {w : World} {B : Nat} {e : TypeId} {v : Value} {n : Nat} {L : List α} (h : w.ownsRow B e k v n (L.flatMap f)) (hn : L.length = n) (hlen : n ≤ 4611686018427387904) :
    Calls Try.prog (ρ.f 35) #[v] w fun r w' => r = .returned (.tuple #[]) ∧ w'.ownsRow B e k v n (L.reverse.flatMap f) ∧ Keeps (fun b => v.ownBlock = some b) w w' := by
  subst hn
  by_cases hL : L = []
  · subst hL
    obtain ⟨a, c, rfl⟩ := own_len h
    refine (AnyQ.slices_Reverse_empty LY a c w).mono ?_
    rintro r w' ⟨rfl, rfl⟩
    exact ⟨rfl, h, Keeps.refl _ _⟩
  · obtain ⟨g, cap, rfl⟩ := own_form h (List.length_pos_iff.2 hL)
    have hH : Go.Sort.HoldsK f k w g 0 L.toArray := by
      unfold Go.Sort.HoldsK
      rw [flatK_list f k hf]
      intro j hj
      have hj' : j < (L.flatMap f).length := by simpa using hj
      refine ⟨?_, own_free h _⟩
      have := h.cells (g := g) rfl j _ (List.getElem?_eq_getElem hj')
      rw [getElem!_pos (L.flatMap f).toArray j (by simpa using hj')]
      unfold Addr.add at this
      split at this
      · rename_i q; subst q; simpa using this
      · simpa using this
    have := AnyQ.slices_Reverse LY k aE zE f hf h1 g 0 cap L.toArray w hH (by simp; omega)
    simp only [List.size_toArray] at this
    refine this.mono ?_
    rintro r w' ⟨rfl, q, rfl⟩
    have ew : Go.Sort.putRowK f k (Sort.ahead w q) g 0 L.toArray.reverse = (w.drewN q).setCells g 0 (L.reverse.flatMap f) := by
      unfold Go.Sort.putRowK
      rw [List.reverse_toArray, flatK_list f k hf]
      have := Lib.putRow_eq_setCells id w g 0 (Go.Sort.flatK f k L.toArray) (L.reverse.flatMap f) q hH (by simp [flat_length f k hf])
      rw [List.map_id] at this
      exact this
    rw [ew]
    have hl : (L.reverse.flatMap f).length = L.length * k := by rw [flat_length f k hf, List.length_reverse]
    refine ⟨rfl, own_overK h hl (heap_sets g _ 0 rfl), ?_⟩
    exact (keeps_setCells g (L.reverse.flatMap f) 0 w (w.drewN q) ((Keeps.refl _ w).drewN q)).mono (fun b _ hb => by subst hb; rfl)

def revCall_ren : Go.Shelf.Ren := ⟨fun | 35 => 20 | n => n, fun | 0 => 0 | 3 => 3 | 4 => 4 | 22 => 22 | 23 => 29 | n => n, fun n => n⟩
theorem revCall_lays : SlLaysE0.n35 Try.prog revCall_ren where
  mixed := by kernel_rfl
  f35 := ⟨Try.f20.name, by kernel_rfl, Try.func20.trans (congrArg some (by kernel_rfl))⟩
  t0 := Try.underlying0
  a0 := Try.isAgg0
  z0 := Try.sizeOf0
  v0 := Try.zeroValue0
  t3 := Try.underlying3
  a3 := Try.isAgg3
  z3 := Try.sizeOf3
  v3 := Try.zeroValue3
  t4 := Try.underlying4
  a4 := Try.isAgg4
  z4 := Try.sizeOf4
  v4 := Try.zeroValue4
  t22 := Try.underlying22
  a22 := Try.isAgg22
  z22 := Try.sizeOf22
  v22 := Try.zeroValue22
theorem reverseCall_c {w : World} {B : Nat} {v : Value} {n : Nat} {L : List Cl} (h : w.ownsRow B 29 8 v n (L.flatMap Cl.cells)) (hn : L.length = n) (hlen : n ≤ 4611686018427387904) :
    Calls Try.prog 20 #[v] w fun r w' => r = .returned (.tuple #[]) ∧ w'.ownsRow B 29 8 v n (L.reverse.flatMap Cl.cells) ∧ Keeps (fun b => v.ownBlock = some b) w w' :=
  haveI : Inhabited Cl := ⟨⟨0, 0, 0, 0, 0, Vl.zero⟩⟩
  reverse_gen revCall_lays 8 (by decide) Try.isAgg29 Try.sizeOf29 Cl.cells Cl.cells_length (fun x v hv => cells_one [x] v (by simpa using hv)) h hn hlen
end Bead
end Go.Proofs.Ytbpbbmamgajimaa
