/- slices.Values, AppendSeq, Collect and Sorted of rows of numbers (began as the kit's texts GgSlicesIterAtTheDump.lean and GgPosAtTheDump.lean, turned to this program). -/
import Derived.Test.YtidnmanljdadaaaSortShelf
import Derived.RangeFuncNested
import Derived.RangeFuncBound
import Derived.RangeFuncCalls
import Derived.RangeFuncBox
import Derived.RangeFuncLeaves
import Derived.Shelf.Abstract
import Derived.Shelf.RegionOpen
import Derived.WalkKit
import Derived.OwnWalkIn
import Derived.TacticsInMore
import Derived.LoopNIn
import Derived.LoopIn
import Derived.Maps.AppendAt
set_option linter.all false
namespace Go.Proofs.Ytidnmanljdadaaa
open Go.RowKit Go.Shelf
namespace Bead

attribute [local go_sem] Oper.semAt_some

/-- What has come when k rounds are over. -/
def upto {α : Type} (f : Nat → α) (k : Nat) : List α := (List.range k).map f
theorem upto_succ {α : Type} (f : Nat → α) (k : Nat) : upto f (k + 1) = upto f k ++ [f k] := by simp [upto, List.range_succ]
theorem upto_length {α : Type} (f : Nat → α) (k : Nat) : (upto f k).length = k := by simp [upto]
theorem upto_take (zs : List Int) {k : Nat} (hk : k ≤ zs.length) : upto (fun j => zs[j]?.getD 0) k = zs.take k := by
  apply List.ext_getElem
  · simp [upto, hk]
  · intro i h1 h2
    have : i < zs.length := by simp [upto] at h1; omega
    simp [upto, this]
theorem upto_all (zs : List Int) : upto (fun j => zs[j]?.getD 0) zs.length = zs := by rw [upto_take zs (Nat.le_refl _), List.take_length]

set_option maxRecDepth 100000 in
set_option maxHeartbeats 2000000 in
theorem values1_in (F : Fence) (n : Nat) (h7 : F.fn 48) (hro : F.round = none) (hn : 1 ≤ n) (l Bs n₀ b off len cap : Nat) (zs : List Int) (hreach : len * 8 ≤ 140737488351232) (hb : b < n₀) (J Jx : List Int → World → Prop)
    (hY : ∀ pre x W, J pre W → pre.length < len → YieldAt F (n - 1) Try.prog l #[.int .i64 x] W fun e W' =>
      (e = .returned (.bool true) ∧ J (pre ++ [x]) W' ∧ Below n₀ W W') ∨ (e = .returned (.bool false) ∧ Jx (pre ++ [x]) W'))
    (W : World) (hBs : W.cell? ⟨Bs, 0, none⟩ = some (.slice (some ⟨b, off, none⟩) len cap)) (hc : ∀ j, j < len → W.cell? ⟨b, off + j, none⟩ = some (.int .i64 (zs[j]?.getD 0))) (h0 : J [] W) :
    CallsIn F n Try.prog 48 #[.func (.yield l) #[] #[], .pointer (some ⟨Bs, 0, none⟩)] W fun e W' => (∃ v, e = .returned v) ∧
      ((∃ ys, ys = upto (fun j => zs[j]?.getD 0) len ∧ J ys W') ∨ (∃ pre, (∃ k, k ≤ len ∧ pre = upto (fun j => zs[j]?.getD 0) k) ∧ Jx pre W')) := by
  refine callsIn_of_wp Try.func48 rfl h7 ?_ hro
  simp only [Try.ntmps48, List.size_toArray, List.length_cons, List.length_nil, Nat.reduceAdd, Nat.reduceSub, Array.replicate_succ, Array.replicate_zero, List.push_toArray, List.append_toArray, List.nil_append, List.cons_append]
  gi_wp2
  gi_loopw [7] (fun i wr => ∃ k : Nat, k ≤ len ∧ i = .int .i64 k ∧ J (upto (fun j => zs[j]?.getD 0) k) wr ∧ Below n₀ W wr)
    (fun i _ => len - (intOf i).toNat)
  case atStart => exact ⟨0, Nat.zero_le _, rfl, h0, Below.refl _ _⟩
  case round =>
    obtain ⟨k, hk, rfl, hJs, hnx⟩ := hrel
    have hcx : k < len → wr.cell? ⟨b, off + k, none⟩ = some (.int .i64 (zs[k]?.getD 0)) := fun h => (hnx.cell (p := ⟨b, off + k, none⟩) hb).trans (hc k h)
    by_cases hlt : k < len
    · obtain ⟨fn, tmps, assign, body, hy, hR⟩ := hY _ (zs[k]?.getD 0) wr hJs (by rw [upto_length]; exact hlt)
      have hcx' := hcx hlt
      gi_wp2
      refine hR.mono ?_
      rintro e W3 (⟨rfl, hJ3, hk3⟩ | ⟨rfl, hJx3⟩)
      · gi_wp2
        go_roundw
        case rel => exact ⟨k + 1, by omega, by simp, by rw [upto_succ]; exact hJ3, hnx.trans hk3⟩
        case measure => simp [intOf]; omega
      · gi_wp2
        refine bodyPost_ret (results_none rfl _ _ _) rfl ?_
        exact ⟨⟨_, rfl⟩, .inr ⟨_, ⟨k + 1, by omega, (upto_succ _ _).symm⟩, hJx3⟩⟩
    · obtain rfl : k = len := by omega
      gi_wp2
      go_end0
      exact ⟨⟨_, rfl⟩, .inl ⟨_, rfl, hJs⟩⟩

set_option maxRecDepth 100000 in
set_option maxHeartbeats 1000000 in
theorem values1_nil_in (F : Fence) (n : Nat) (h7 : F.fn 48) (hro : F.round = none) (l Bs : Nat) (a : Option Addr) (cap : Nat) (J : List Int → World → Prop) (W : World) (hBs : W.cell? ⟨Bs, 0, none⟩ = some (.slice a 0 cap)) (h0 : J [] W) :
    CallsIn F n Try.prog 48 #[.func (.yield l) #[] #[], .pointer (some ⟨Bs, 0, none⟩)] W fun e W' => (∃ v, e = .returned v) ∧ J [] W' := by
  refine callsIn_of_wp Try.func48 rfl h7 ?_ hro
  simp only [Try.ntmps48, List.size_toArray, List.length_cons, List.length_nil, Nat.reduceAdd, Nat.reduceSub, Array.replicate_succ, Array.replicate_zero, List.push_toArray, List.append_toArray, List.nil_append, List.cons_append]
  gi_wp2
  gi_loopw [7] (fun i wr => i = .int .i64 0 ∧ J [] wr) (fun _ _ => 0)
  case atStart => exact ⟨rfl, h0⟩
  case round =>
    obtain ⟨rfl, hJs⟩ := hrel
    gi_wp2
    go_end0
    exact ⟨⟨_, rfl⟩, hJs⟩

/-- A slice value holds numbers in a block below n₀, or has none. -/
def IntsAt (n₀ : Nat) (W : World) (sv : Value) (zs : List Int) : Prop :=
  (∃ a c, sv = .slice a 0 c ∧ zs = []) ∨ ∃ b off cap, sv = .slice (some ⟨b, off, none⟩) zs.length cap ∧ b < n₀ ∧ ∀ j, j < zs.length → W.cell? ⟨b, off + j, none⟩ = some (.int .i64 (zs[j]?.getD 0))
theorem IntsAt.below {n₀ : Nat} {A B : World} (h : Below n₀ A B) {sv : Value} {zs : List Int} : IntsAt n₀ A sv zs → IntsAt n₀ B sv zs
  | .inl e => .inl e
  | .inr ⟨b, off, cap, e, hb, hc⟩ => .inr ⟨b, off, cap, e, hb, fun j hj => (h.cell (p := ⟨b, off + j, none⟩) hb).trans (hc j hj)⟩
theorem IntsAt.of {w : World} {v : Value} {L : List Nat} (h : Nats w v L) : IntsAt w.heap.size w v (L.map (fun (x : Nat) => (x : Int))) := by
  by_cases hL : L = []
  · subst hL
    obtain ⟨a, c, rfl⟩ := h.form
    exact .inl ⟨a, c, rfl, rfl⟩
  · obtain ⟨b, off, cap, rfl, hc⟩ := h.cells hL
    have hp : 0 < L.length := List.length_pos_iff.2 hL
    refine .inr ⟨b, off, cap, by simp, World.block_lt_of_cell? w _ (hc 0 L[0] (List.getElem?_eq_getElem hp)), fun j hj => ?_⟩
    have hj' : j < L.length := by simpa using hj
    rw [hc j L[j] (List.getElem?_eq_getElem hj')]
    simp [hj']

set_option maxRecDepth 100000 in
theorem values_stops (F : Fence) (n : Nat) (h7 : F.fn 48) (hro : F.round = none) (hn : 1 ≤ n) (Bs n₀ : Nat) (sv : Value) (zs : List Int) (hreach : zs.length * 8 ≤ 140737488351232) (w : World) (hBs : Bs < w.heap.size) (hn₀ : n₀ ≤ w.heap.size)
    (hc : w.cell? ⟨Bs, 0, none⟩ = some sv) (hI : IntsAt n₀ w sv zs) :
    SeqStopsK F n Try.prog 48 #[.pointer (some ⟨Bs, 0, none⟩)] (fun x : Int => #[Value.int .i64 x]) (Below n₀) (fun ys => ys = zs) (fun pre => pre <+: zs) zs.length w := fun l J Jx W hW _ _ hY h0 => by
  have hc' := (hW.cell (p := ⟨Bs, 0, none⟩) hBs).trans hc
  rcases hI.below (hW.mono hn₀) with ⟨a, c, rfl, rfl⟩ | ⟨b, off, cap, rfl, hb, hcs⟩
  · exact (values1_nil_in F n h7 hro l Bs a c J W hc' h0).mono fun e W' ⟨he, hj⟩ => ⟨he, .inl ⟨_, rfl, hj⟩⟩
  · refine (values1_in F n h7 hro hn l Bs n₀ b off zs.length cap zs hreach hb J Jx hY W hc' hcs h0).mono ?_
    rintro e W' ⟨he, ⟨ys, rfl, hj⟩ | ⟨pre, ⟨k, hk, rfl⟩, hj⟩⟩
    · exact ⟨he, .inl ⟨_, upto_all zs, hj⟩⟩
    · exact ⟨he, .inr ⟨_, by rw [upto_take zs hk]; exact List.take_prefix _ _, hj⟩⟩

set_option maxRecDepth 100000 in
set_option maxHeartbeats 2000000 in
/-- slices.AppendSeq(nil, slices.Values(row)): a new row of the same numbers. -/
theorem appendSeq_in (F : Fence) (n : Nat) (h3 : F.fn 89) (h5 : F.fn 48) (hro : F.round = none) (hn : 3 ≤ n) (Bs : Nat) (sv : Value) (zs : List Int) (hlen : zs.length ≤ 1099511627776) (w : World) (hBs : w.cell? ⟨Bs, 0, none⟩ = some sv) (hI : IntsAt w.heap.size w sv zs) :
    CallsIn F n Try.prog 89 #[.slice none 0 0, .func (.func 48) #[] #[.pointer (some ⟨Bs, 0, none⟩)]] w fun e W' => ∃ v, e = .returned v ∧ W'.ownsRow w.heap.size 3 1 v zs.length (zs.map (Value.int .i64)) ∧ Below w.heap.size w W' := by
  have h1 : 1 ≤ n := by omega
  have hmax : maxLen = 9223372036854775807 := rfl
  have hBlt : Bs < w.heap.size := World.block_lt_of_cell? w _ hBs
  obtain ⟨i0, hi, hz0, hz1, hz2⟩ := info_parts Try.infoInt
  refine callsIn_of_wp_marks Try.func89 rfl h3 ?_ hro
  simp only [Try.ntmps89, List.size_toArray, List.length_cons, List.length_nil, Nat.reduceAdd, Nat.reduceSub, Array.replicate_succ, Array.replicate_zero, List.push_toArray, List.append_toArray, List.nil_append, List.cons_append]
  gi_wp2
  have bO := Boxed.new w 27 (.slice none 0 0)
  have hB0 : Below w.heap.size w (w.alloc (.cells #[.slice none 0 0] 27)) := (Below.refl _ w).alloc (Nat.le_refl _) _
  refine wpIn_rangeFunc_ownG hro h1 (gf := 48) (lb := #[.pointer (some ⟨Bs, 0, none⟩)]) rfl h5 (enters_of Try.func48 (by kernel_rfl) rfl)
    (values_stops F (n - 1) h5 hro (by omega) Bs w.heap.size sv zs (by omega) _ (by simp; omega) (by simp) ((hB0.cell (p := ⟨Bs, 0, none⟩) hBlt).trans hBs) (hI.below hB0)) belowK_t (belowK_b (by simp)) (Below.refl _ _) (fun _ => rfl)
    (fun pre W => (∃ v, Boxed W w.heap.size 27 v ∧ W.ownsRow w.heap.size 3 1 v pre.length (pre.map (Value.int .i64)) ∧ True) ∧ Below w.heap.size w W)
    (fun _ _ _ => False)
    (OwnFrom.and (Own.from (holdsRow_own w.heap.size w.heap.size 27 3 1 (fun pre : List Int => pre.length) (fun pre => pre.map (Value.int .i64)) (fun _ _ => True)) _) (ownFrom_below (Nat.le_refl _) (by simp)))
    (fun _ _ _ _ _ hs _ _ => hs)
    ⟨⟨_, bO, World.ownsRow_nil _ _ _ _, trivial⟩, hB0⟩
    (fun x => { tmps := #[.slice none 0 0, .func (.func 48) #[] #[.pointer (some ⟨Bs, 0, none⟩)], .pointer (some ⟨w.heap.size, 0, none⟩), undef, .slice none 0 0, .int .i64 x, .func (.func 48) #[] #[.pointer (some ⟨Bs, 0, none⟩)], .int .i64 x, undef, undef, undef, undef, undef], defers := [] }) ?assign ?body ?done ?stop
  case assign =>
    intro l x W K hK
    gi_wp2
    exact hK
  case body =>
    rintro l pre x W ⟨⟨v, hv, hrow, _⟩, hB⟩ hlt
    have hc := hv.cell
    gi_wp2_with (gi_at_builtin; refine wpListIn_append_own _ rfl _ _ 27 rfl w.heap.size 3 i0 (.int .i64 0) 1 8 Try.underlying27 hi hz0 hz1 hz2 rfl (by decide) _ _ _ rfl (hrow.alloc _) ⟨W.heap.size, 0, none⟩ 1 1 [.int .i64 x] rfl rfl (cell_one_new _ _ _) (by simp [Value.oneCell']) (by omega) (by omega) (by have := hB.size; simp; omega) ?_; intro v' w1 hown' hgrow _; obtain ⟨g', cap', rfl⟩ := ownsRow_succ hown'; obtain ⟨hv1, hv2, hr2, hk2, hb2⟩ := hv.appended (by decide) hrow hB.size (Nat.le_refl _) hown' hgrow; have hc1 := hv1.cell; have hf1 := hv1.frozen)
    exact ⟨hk2.from _, hb2, ⟨_, hv2, by simpa using hr2, trivial⟩, hB.trans hb2⟩
  case done =>
    rintro D ys W hD rfl ⟨⟨v, hv, hrow, _⟩, hB⟩ hK
    have hc := hv.cell
    gi_wp2
    refine ⟨by simp, .inl ⟨_, _, rfl, run_takeDeferred hK, ?_⟩⟩
    exact ⟨_, results_tmp rfl _ _ _, v, rfl, ownsRow_putObj hrow _ hK rfl, hB.trans (belowK_b (w := w) (Nat.le_refl _) W D _ _ (by simp at hD; omega) hK rfl rfl)⟩
  case stop =>
    rintro D c pre W _ _ h _
    exact h.elim

theorem appendSeq_c {w : World} {Bs : Nat} {sv : Value} {L : List Nat} (hlen : L.length ≤ 1099511627776) (hBs : w.cell? ⟨Bs, 0, none⟩ = some sv) (h : Nats w sv L) :
    Calls Try.prog 89 #[.slice none 0 0, .func (.func 48) #[] #[.pointer (some ⟨Bs, 0, none⟩)]] w fun r w' => ∃ v, r = .returned v ∧ w'.ownsRow w.heap.size 3 1 v L.length (ints L) ∧ Below w.heap.size w w' := by
  refine (callsIn_wide (n := 3)).1 ?_
  refine (appendSeq_in Fence.wide 3 trivial trivial rfl (Nat.le_refl _) Bs sv (L.map (fun (x : Nat) => (x : Int))) (by simpa using hlen) w hBs (IntsAt.of h)).mono ?_
  rintro e W ⟨v, rfl, ho, hb⟩
  rw [List.length_map, ints_map] at ho
  exact ⟨v, rfl, ho, hb⟩

/-- slices.Values(row). -/
theorem valuesSeq_c {w : World} (a : Option Addr) (n c : Nat) :
    Calls Try.prog 27 #[.slice a n c] w fun r w' => r = .returned (.func (.func 48) #[] #[.pointer (some ⟨w.heap.size, 0, none⟩)]) ∧ w' = w.alloc (.cells #[.slice a n c] 27) := by
  go_enter Try.func27, Try.ntmps27
  go_wp2
  go_ret
  exact ⟨rfl, rfl⟩
theorem collect_c {w : World} {Bs : Nat} {sv : Value} {L : List Nat} (hlen : L.length ≤ 1099511627776) (hBs : w.cell? ⟨Bs, 0, none⟩ = some sv) (h : Nats w sv L) :
    Calls Try.prog 47 #[.func (.func 48) #[] #[.pointer (some ⟨Bs, 0, none⟩)]] w fun r w' => ∃ v, r = .returned v ∧ w'.ownsRow w.heap.size 3 1 v L.length (ints L) ∧ Below w.heap.size w w' := by
  have AP := Lib.hid (appendSeq_c hlen hBs h)
  clear hBs h
  go_enter Try.func47, Try.ntmps47
  go_wp2_with fail
  refine AP.out.mono ?_
  rintro r w1 ⟨v, rfl, ho, hb⟩
  have HO := Lib.hid ho; have HB := Lib.hid hb
  clear ho hb AP
  go_wp2
  go_ret
  exact ⟨v, rfl, HO.out, HB.out⟩
/-- slices.Sorted(slices.Values(row)): a new row of the same numbers in some order. -/
theorem sorted_c {w : World} {Bs : Nat} {sv : Value} {L : List Nat} (hlen : L.length ≤ 1099511627776) (hBs : w.cell? ⟨Bs, 0, none⟩ = some sv) (h : Nats w sv L) :
    Calls Try.prog 26 #[.func (.func 48) #[] #[.pointer (some ⟨Bs, 0, none⟩)]] w fun r w' => ∃ v, r = .returned v ∧ (∃ L' : List Nat, L'.Perm L ∧ w'.ownsRow w.heap.size 3 1 v L.length (ints L')) ∧ Below w.heap.size w w' := by
  have CO := Lib.hid (collect_c hlen hBs h)
  clear hBs h
  go_enter Try.func26, Try.ntmps26
  go_wp2_with fail
  refine CO.out.mono ?_
  rintro r w1 ⟨v, rfl, ho, hb⟩
  have SO := Lib.hid (sortInt_c ho rfl hlen)
  have HO := Lib.hid ho; have HB := Lib.hid hb
  obtain ⟨a, c, rfl⟩ := own_len ho
  clear ho hb CO
  go_wp2_with fail
  refine SO.out.mono ?_
  rintro r w2 ⟨rfl, ⟨L', hp, ho⟩, hk⟩
  have HP := Lib.hid hp; have HO2 := Lib.hid ho; have HK := Lib.hid hk
  clear hp ho hk SO
  go_wp2
  go_ret
  exact ⟨_, rfl, ⟨L', HP.out, HO2.out⟩, HB.out.trans (HK.out.below (fun k _ _ q => by have := (HO.out.lt k q).1; omega) HB.out.size)⟩
end Bead
end Go.Proofs.Ytidnmanljdadaaa
