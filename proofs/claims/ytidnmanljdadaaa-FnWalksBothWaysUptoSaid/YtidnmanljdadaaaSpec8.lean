/- The reference's methods that write, continued: take. -/
import Derived.Test.YtidnmanljdadaaaSpec7
import Derived.Test.YtidnmanljdadaaaSpec3
set_option linter.all false
namespace Go.Proofs.Ytidnmanljdadaaa
open Go.RowKit
namespace Bead
set_option maxRecDepth 100000

def without (s : List Nat) (e : Nat) : List Nat := s.filter fun x => decide (x ≠ e)
theorem without_snoc_ne (s : List Nat) {e x : Nat} (h : ¬ x = e) : without (s ++ [x]) e = without s e ++ [x] := by simp [without, h]
theorem without_snoc_eq (s : List Nat) (e : Nat) : without (s ++ [e]) e = without s e := by simp [without]
theorem without_le (s : List Nat) (e : Nat) : (without s e).length ≤ s.length := List.length_filter_le _ _

structure TakeAt (w wr : World) (s : List Nat) (e : Nat) (out : Value) : Prop where
  own : wr.ownsRow w.heap.size 3 1 out (without s e).length (ints (without s e))
  below : Below w.heap.size w wr

set_option maxHeartbeats 1000000 in
theorem take_c {w : World} {B g : Nat} {F : Nat → Prop} {m : Md} (h : ST w B g F m) {l e : Nat} (hl : l < m.len) (hlen : m.len ≤ 4611686018427387904) (hsz : (m.seq l).length ≤ 1000000) :
    Calls Try.prog 100 #[.pointer (some ⟨g, 0, none⟩), .int .i64 l, .int .i64 e] w fun r w' => r = .returned (.tuple #[]) ∧ SP w w' B g F (m.take l e) := by
  obtain ⟨v0, v1, v2, v3, ls, hs, hf, hF⟩ := h
  have c1 := hs.c1
  obtain ⟨b1, cap1, rfl, cl, _⟩ := hs.at1 hl
  have hr := hs.ll l hl
  have H := Lib.hid hs; have HF := Lib.hid hf; have HF2 := Lib.hid hF; have HR := Lib.hid hr
  have FIN : ∀ {wr : World} {out : Value}, TakeAt w wr (m.seq l) e out → Hid ((SP w (wr.setCell ⟨b1, l, none⟩ out) B g F (m.take l e)) ∧ wr.cell? ⟨g, 1, none⟩ = some (.slice (some ⟨b1, 0, none⟩) m.len cap1) ∧ (∃ v, wr.cell? ⟨b1, l, none⟩ = some v) ∧ wr.frozen? ⟨b1, l, none⟩ = false) := fun q =>
    ⟨SP.rowOwn H.out HF.out HF2.out q.below hl q.own, (H.out.below q.below).c1, ⟨_, (q.below.cell (p := ⟨b1, l, none⟩) (World.block_lt_of_cell? w _ cl)).trans cl⟩, (H.out.below q.below).r1.frozenAt l⟩
  by_cases hne : m.seq l = []
  · obtain ⟨a, cp, hx⟩ := hr.form
    rw [hx, hne] at cl
    simp only [List.length_nil] at cl
    rw [hne] at FIN
    clear hs hf hF hr hx hne
    go_enter Try.func100, Try.ntmps100
    go_wp2
    go_loopg [6, 17] 0 (fun n out k wr => k = .int .i64 0 ∧ TakeAt w wr [] e out)
    case atStart => exact ⟨rfl, World.ownsRow_nil _ _ _ _, Below.refl _ _⟩
    case round =>
      obtain ⟨rfl, hT⟩ := hrel
      obtain ⟨f1, f2, ⟨v, f3⟩, f4⟩ := (FIN hT).out
      have F1 := Lib.hid f1
      obtain ⟨a', cap', rfl⟩ := own_len hT.own
      clear hT f1
      go_wp2
      first | go_end0 | (refine bodyPost_ret (results_none rfl _ _ _) rfl ?_)
      exact ⟨rfl, F1.out⟩
  · obtain ⟨b', cp, hx, hc⟩ := hr.get hne
    rw [hx] at cl
    have HC := Lib.hid hc
    clear hs hf hF hr hx hne hc
    go_enter Try.func100, Try.ntmps100
    go_wp2
    go_loopg [6, 17] (m.seq l).length (fun n out k wr => ∃ j : Nat, j + n = (m.seq l).length ∧ k = .int .i64 j ∧ TakeAt w wr ((m.seq l).take j) e out)
    case atStart => exact ⟨0, by omega, rfl, World.ownsRow_nil _ _ _ _, Below.refl _ _⟩
    case round =>
      obtain ⟨j, hj, rfl, hT⟩ := hrel
      by_cases hk0 : gk = 0
      · subst hk0
        obtain rfl : j = (m.seq l).length := by omega
        rw [List.take_length] at hT
        obtain ⟨f1, f2, ⟨v, f3⟩, f4⟩ := (FIN hT).out
        have F1 := Lib.hid f1
        obtain ⟨a', cap', rfl⟩ := own_len hT.own
        clear hT f1 hj
        go_wp2
        first | go_end0 | (refine bodyPost_ret (results_none rfl _ _ _) rfl ?_)
        exact ⟨rfl, F1.out⟩
      · have hjl : j < (m.seq l).length := by omega
        have hg : (m.seq l)[j]? = some (m.seq l)[j] := List.getElem?_eq_getElem hjl
        have e1 : (m.seq l).take (j + 1) = (m.seq l).take j ++ [(m.seq l)[j]] := List.take_succ_eq_append_getElem hjl
        have cj : wr.cell? ⟨b', j, none⟩ = some (.int .i64 ((m.seq l)[j] : Nat)) := by
          have c0 := HC.out j _ hg
          rw [hT.below.cell (p := ⟨b', j, none⟩) (World.block_lt_of_cell? w _ c0)]; exact c0
        have hle := without_le ((m.seq l).take j) e
        have hle2 := List.length_take_le j (m.seq l)
        have T := Lib.hid hT; have E1 := Lib.hid e1; have HJ := Lib.hid hj
        have sz := hT.below.size
        clear hT e1 hg hj FIN
        generalize (m.seq l)[j] = x at *
        by_cases hq : x = e
        · subst hq
          have T2 : Hid (TakeAt w wr ((m.seq l).take (j + 1)) x u6) := by
            rw [E1.out]; exact ⟨by rw [without_snoc_eq]; exact T.out.own, T.out.below⟩
          go_wp2
          go_roundg (gk - 1)
          case measure => omega
          case rel => exact ⟨j + 1, by have := HJ.out; omega, by go_num, T2.out⟩
        · have dx : (((x : Nat) : Int) != ((e : Nat) : Int)) = true := by simp; omega
          have HQ := Lib.hid hq
          clear hq
          go_wp2_with (at_builtin; refine wpList_app2 rfl (.tmp 24) (.tmp 26) 27 rfl w.heap.size 3 _ 1 8 Try.underlying27 Try.infoInt rfl (by decide) _ (without ((m.seq l).take j) e).length _ rfl (T.out.own.alloc _) _ 1 [.int .i64 (x : Nat)] rfl (sl_new _ _ _ _ _) rfl (by simp [Value.oneCell']) (.inr (.inr (by decide))) (by omega) (by decide) (by simp; omega) ?_; intro x2 w2 hown2 hg2 _; have T2 : Hid (TakeAt w w2 ((m.seq l).take (j + 1)) e x2) := (by rw [E1.out]; refine ⟨?_, below_grown (T.out.below.alloc T.out.below.size _) (T.out.own.alloc _) (Nat.le_refl _) hg2⟩; rw [without_snoc_ne _ HQ.out, List.length_append, ints_append]; exact hown2); clear hown2 hg2)
          go_roundg (gk - 1)
          case measure => omega
          case rel => exact ⟨j + 1, by have := HJ.out; omega, by go_num, T2.out⟩
end Bead
end Go.Proofs.Ytidnmanljdadaaa
