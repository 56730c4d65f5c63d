/- laws.answered. -/
import Derived.Test.YtidnmanljdadaaaScripts
set_option linter.all false
namespace Go.Proofs.Ytidnmanljdadaaa
open Go.RowKit
namespace Bead
set_option maxRecDepth 100000

theorem idxI_nat (P : List Nat) (e : Nat) : idxI P (e : Nat) = idxZ P e := by
  unfold idxI idxZ
  simp only [Int.toNat_natCast]
  by_cases h : e ∈ P
  · rw [if_pos ⟨by omega, h⟩, if_pos h]
  · rw [if_neg (fun q => h q.2), if_neg h]
/-- The answer at a place. -/
def anAt (A : List An) (P : List Nat) (p : Nat) : An := unplace P (A.getD p An.no)
theorem anAt_pos {A : List An} {P : List Nat} {p e : Nat} {a : An} (h : A[p]? = some a) (he : a.elem = (e : Nat)) : anAt A P p = { a with elem := idxZ P e } := by
  unfold anAt unplace
  rw [List.getD_eq_getElem?_getD, h]
  simp only [Option.getD_some, he]
  rw [if_pos (by omega), idxI_nat]
theorem anAt_neg {A : List An} {P : List Nat} {p : Nat} {a : An} (h : A[p]? = some a) (he : ¬ 0 ≤ a.elem) : anAt A P p = a := by
  unfold anAt unplace
  rw [List.getD_eq_getElem?_getD, h]
  simp only [Option.getD_some]
  rw [if_neg he]

structure AnAt (w wr : World) (A : List An) (P : List Nat) (j : Nat) (v : Value) : Prop where
  own : wr.ownsRow w.heap.size 41 5 v j (((P.take j).map (anAt A P)).flatMap An.cells)
  below : Below w.heap.size w wr
theorem AnAt.next {w wr w2 : World} {A : List An} {P : List Nat} {j p : Nat} {v v' : Value} {o o' : Obj} (h : AnAt w wr A P j v) (hp : P[j]? = some p)
    (hown : w2.ownsRow w.heap.size 41 5 v' (j + 1) (((P.take j).map (anAt A P)).flatMap An.cells ++ (anAt A P p).cells)) (hg : ((wr.alloc o).alloc o').grownBy w2 v.ownBlock) : AnAt w w2 A P (j + 1) v' := by
  obtain ⟨hj, e⟩ := List.getElem?_eq_some_iff.1 hp
  refine ⟨?_, below_grown (below_alloc2 h.below o o') ((h.own.alloc o).alloc o') (Nat.le_refl _) hg⟩
  rw [List.take_succ_eq_append_getElem hj, List.map_append, List.flatMap_append, e]
  simpa using hown

set_option maxHeartbeats 4000000 in
theorem answered_c {w : World} {va vp : Value} {A : List An} {P : List Nat} (hA : Sl w va A.length (A.flatMap An.cells)) (hP : Nats w vp P) (hin : ∀ p ∈ P, p < A.length) (hlP : P.length ≤ 1099511627776) :
    Calls Try.prog 13 #[va, vp] w fun r w' => ∃ v', r = .returned v' ∧ w'.ownsRow w.heap.size 41 5 v' P.length ((P.map (anAt A P)).flatMap An.cells) ∧ Below w.heap.size w w' := by
  have HA := Lib.hid hA; have HP := Lib.hid hP; have HI := Lib.hid hin
  obtain ⟨a1, a2, rfl, _⟩ := hA
  obtain ⟨p1, p2, rfl⟩ := hP.form
  clear hP hin
  go_enter Try.func13, Try.ntmps13
  go_wp2_with fail
  go_loopg [5, 11] P.length (fun n o k wr => ∃ j, j + n = P.length ∧ k = .int .i64 j ∧ AnAt w wr A P j o)
  case atStart => exact ⟨0, by omega, rfl, by simpa using World.ownsRow_nil _ _ _ _, Below.refl _ _⟩
  case round =>
    obtain ⟨j, hj, rfl, hN⟩ := hrel
    by_cases hk0 : gk = 0
    · subst hk0
      obtain rfl : j = P.length := by omega
      have F : Hid (wr.ownsRow w.heap.size 41 5 u5 P.length ((P.map (anAt A P)).flatMap An.cells) ∧ Below w.heap.size w wr) := by
        have own := hN.own
        rw [List.take_length] at own
        exact ⟨own, hN.below⟩
      clear hN hj
      go_wp2
      go_ret
      exact ⟨_, rfl, F.out.1, F.out.2⟩
    · have hjl : j < P.length := by omega
      obtain ⟨p, hget⟩ : ∃ p, P[j]? = some p := ⟨_, List.getElem?_eq_getElem hjl⟩
      have hpl := HI.out p (List.mem_of_getElem? hget)
      obtain ⟨a, ha⟩ : ∃ a, A[p]? = some a := ⟨_, List.getElem?_eq_getElem hpl⟩
      obtain ⟨b1, o1, c1, hv1, cell1⟩ := (HP.out.later hN.below).cells (by intro q; rw [q] at hget; simp at hget)
      obtain ⟨b2, o2, c2, hv2, cell2⟩ := (Sl.later HA.out hN.below).elem An.cells_length (by decide) (by intro q; rw [q] at ha; simp at ha)
      simp only [Value.slice.injEq] at hv1 hv2
      obtain ⟨rfl, hz1, rfl⟩ := hv1
      obtain ⟨rfl, hz2, rfl⟩ := hv2
      clear hz1 hz2
      have ep := cell1 j p hget
      have cc : ∀ t y, a.cells[t]? = some y → wr.cell? ⟨b2, o2 + p * 5 + t, none⟩ = some y := fun t y hy => by rw [Nat.add_assoc]; exact cell2 p a ha t y hy
      have e0 := cc 0 _ rfl; have e1 := cc 1 _ rfl; have e2 := cc 2 _ rfl; have e3 := cc 3 _ rfl; have e4 := cc 4 _ rfl
      simp only [Nat.add_zero] at e0
      have HN := Lib.hid hN; have HG := Lib.hid hget; have HJ := Lib.hid hj
      have szr := hN.below.size
      obtain ⟨x1, x2, rfl⟩ := own_len hN.own
      by_cases h0 : 0 ≤ a.elem
      · obtain ⟨e, he⟩ : ∃ e : Nat, a.elem = (e : Nat) := ⟨a.elem.toNat, by omega⟩
        have EA := Lib.hid (anAt_pos (P := P) ha he)
        have IX := Lib.hid (fun o => index_c e ((HP.out.later hN.below).later (below1 wr o)) (by omega))
        have q : decide ((e : Int) ≥ 0) = true := by simp
        rw [he] at e0
        clear hN hget hj cc cell1 cell2 ha he h0
        go_wp2_with fail
        refine (IX.out _).mono ?_
        rintro r w1 ⟨rfl, rfl⟩
        go_wp2_with (at_builtin; refine wpList_app2 rfl (.tmp 27) (.tmp 29) 24 rfl w.heap.size 41 _ 5 48 Try.underlying24 Try.infoAnswer rfl (by decide) _ _ _ rfl ((HN.out.own.alloc _).alloc _) _ 1 ({ a with elem := idxZ P e } : An).cells rfl (sl_at' _ _ _ _ _ _ (by simp)) rfl (by simp [An.cells, Value.oneCell']) (.inr (.inr (by decide))) (by omega) (by decide) (by simp; omega) ?_; intro v' w3 hown hg hn; have N2 := Lib.hid (HN.out.next HG.out (by rw [EA.out]; exact hown) hg); clear hown hg hn)
        go_roundg (gk - 1)
        case measure => omega
        case rel => exact ⟨j + 1, by have := HJ.out; omega, by go_num, N2.out⟩
      · have EA := Lib.hid (anAt_neg (P := P) ha h0)
        have q : decide (a.elem ≥ 0) = false := by simpa using h0
        clear hN hget hj cc cell1 cell2 ha h0
        go_wp2_with (at_builtin; refine wpList_app2 rfl (.tmp 27) (.tmp 29) 24 rfl w.heap.size 41 _ 5 48 Try.underlying24 Try.infoAnswer rfl (by decide) _ _ _ rfl ((HN.out.own.alloc _).alloc _) _ 1 a.cells rfl (sl_at' _ _ _ _ _ _ (by simp)) rfl (by simp [An.cells, Value.oneCell']) (.inr (.inr (by decide))) (by omega) (by decide) (by simp; omega) ?_; intro v' w3 hown hg hn; have N2 := Lib.hid (HN.out.next HG.out (by rw [EA.out]; exact hown) hg); clear hown hg hn)
        go_roundg (gk - 1)
        case measure => omega
        case rel => exact ⟨j + 1, by have := HJ.out; omega, by go_num, N2.out⟩
end Bead
end Go.Proofs.Ytidnmanljdadaaa
