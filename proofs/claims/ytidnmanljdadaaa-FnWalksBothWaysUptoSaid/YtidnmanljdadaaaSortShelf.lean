/- The kit's contracts of slices.Sort and slices.Compact of rows of numbers, at this program, in our own words. -/
import Derived.Test.YtidnmanljdadaaaShelf
import Derived.Shelf.Sort.Plain
import Derived.Shelf.Slices.CompactI
import Derived.Shelf.Slices.In.SortNone
import Derived.Lib.OwnBridge
set_option linter.all false
namespace Go.Proofs.Ytidnmanljdadaaa
open Go.RowKit
namespace Bead
set_option maxRecDepth 100000

def sortInt_ren : Go.Shelf.Ren := ⟨fun | 125 => 43 | 128 => 86 | 129 => 87 | 189 => 19 | 215 => 113 | 216 => 83 | 257 => 42 | 294 => 77 | 295 => 78 | 296 => 79 | 297 => 80 | 298 => 81 | 299 => 82 | 300 => 84 | 301 => 85 | 328 => 108 | 329 => 109 | 330 => 110 | 331 => 111 | 332 => 112 | 343 => 115 | n => n, fun | 0 => 0 | 3 => 3 | 4 => 4 | 5 => 5 | 9 => 9 | 28 => 27 | 46 => 39 | 51 => 135 | 53 => 137 | 131 => 49 | 182 => 127 | 183 => 128 | 218 => 157 | 222 => 156 | 228 => 163 | 229 => 164 | n => n, fun n => n⟩
theorem sortInt_lays : Lays.n189 Try.prog sortInt_ren where
  mixed := by kernel_rfl
  f125 := Try.func43.trans (congrArg some (by kernel_rfl))
  f128 := Try.func86.trans (congrArg some (by kernel_rfl))
  f129 := Try.func87.trans (congrArg some (by kernel_rfl))
  f189 := Try.func19.trans (congrArg some (by kernel_rfl))
  f215 := Try.func113.trans (congrArg some (by kernel_rfl))
  f216 := Try.func83.trans (congrArg some (by kernel_rfl))
  f257 := Try.func42.trans (congrArg some (by kernel_rfl))
  f294 := Try.func77.trans (congrArg some (by kernel_rfl))
  f295 := Try.func78.trans (congrArg some (by kernel_rfl))
  f296 := Try.func79.trans (congrArg some (by kernel_rfl))
  f297 := Try.func80.trans (congrArg some (by kernel_rfl))
  f298 := Try.func81.trans (congrArg some (by kernel_rfl))
  f299 := Try.func82.trans (congrArg some (by kernel_rfl))
  f300 := Try.func84.trans (congrArg some (by kernel_rfl))
  f301 := Try.func85.trans (congrArg some (by kernel_rfl))
  f328 := Try.func108.trans (congrArg some (by kernel_rfl))
  f329 := Try.func109.trans (congrArg some (by kernel_rfl))
  f330 := Try.func110.trans (congrArg some (by kernel_rfl))
  f331 := Try.func111.trans (congrArg some (by kernel_rfl))
  f332 := Try.func112.trans (congrArg some (by kernel_rfl))
  f343 := Try.func115.trans (congrArg some (by kernel_rfl))
  t0 := Try.underlying0
  a0 := Try.isAgg0
  z0 := Try.sizeOf0
  v0 := Try.zeroValue0
  t3 := Try.underlying3
  a3 := Try.isAgg3
  z3 := Try.sizeOf3
  v3 := Try.zeroValue3
  t4 := Try.underlying4
  a4 := Try.isAgg4
  z4 := Try.sizeOf4
  v4 := Try.zeroValue4
  t5 := Try.underlying5
  a5 := Try.isAgg5
  z5 := Try.sizeOf5
  v5 := Try.zeroValue5
  t9 := Try.underlying9
  a9 := Try.isAgg9
  z9 := Try.sizeOf9
  v9 := Try.zeroValue9
  t28 := Try.underlying27
  a28 := Try.isAgg27
  z28 := Try.sizeOf27
  v28 := Try.zeroValue27
  t46 := Try.underlying39
  a46 := Try.isAgg39
  z46 := Try.sizeOf39
  v46 := Try.zeroValue39
  t51 := Try.underlying135
  a51 := Try.isAgg135
  z51 := Try.sizeOf135
  v51 := Try.zeroValue135
  t53 := Try.underlying137
  a53 := Try.isAgg137
  z53 := Try.sizeOf137
  v53 := Try.zeroValue137
  t131 := Try.underlying49
  a131 := Try.isAgg49
  z131 := Try.sizeOf49
  v131 := Try.zeroValue49
  t182 := Try.underlying127
  a182 := Try.isAgg127
  z182 := Try.sizeOf127
  v182 := Try.zeroValue127
  t183 := Try.underlying128
  a183 := Try.isAgg128
  z183 := Try.sizeOf128
  v183 := Try.zeroValue128
  t218 := Try.underlying157
  a218 := Try.isAgg157
  z218 := Try.sizeOf157
  v218 := Try.zeroValue157
  t222 := Try.underlying156
  a222 := Try.isAgg156
  z222 := Try.sizeOf156
  v222 := Try.zeroValue156
  t228 := Try.underlying163
  a228 := Try.isAgg163
  z228 := Try.sizeOf163
  v228 := Try.zeroValue163
  t229 := Try.underlying164
  a229 := Try.isAgg164
  z229 := Try.sizeOf164
  v229 := Try.zeroValue164

def compInt_ren : Go.Shelf.Ren := ⟨fun | 20 => 20 | n => n, fun | 0 => 0 | 3 => 3 | 4 => 4 | 22 => 27 | n => n, fun n => n⟩
theorem compInt_lays : Lays2.n20 Try.prog compInt_ren where
  mixed := by kernel_rfl
  f20 := Try.func20.trans (congrArg some (by kernel_rfl))
  t0 := Try.underlying0
  a0 := Try.isAgg0
  z0 := Try.sizeOf0
  v0 := Try.zeroValue0
  t3 := Try.underlying3
  a3 := Try.isAgg3
  z3 := Try.sizeOf3
  v3 := Try.zeroValue3
  t4 := Try.underlying4
  a4 := Try.isAgg4
  z4 := Try.sizeOf4
  v4 := Try.zeroValue4
  t22 := Try.underlying27
  a22 := Try.isAgg27
  z22 := Try.sizeOf27
  v22 := Try.zeroValue27
  i3 := by kernel_rfl

open Go.Sort in
/-- What a row that is put over leaves alone. -/
theorem keeps_put {w : World} {g q : Nat} {d : Array Int} {os : Array Obj} : Keeps (fun k => k = g) w (grow (putRow (Value.int .i64) (Go.Sort.ahead w q) g 0 d) os) :=
  ⟨rfl, rfl, rfl, by simp [grow, putRow, mapBlock, Go.Sort.ahead], fun k hk hne => by
    rw [heap_grow_old _ _ (by simpa [putRow, mapBlock, Go.Sort.ahead] using hk)]
    simp [putRow, mapBlock, Go.Sort.ahead, Array.getElem?_modify, show g ≠ k from fun e => hne e.symm]⟩
theorem row_some {w : World} {B : Nat} {e : TypeId} {v : Value} {n : Nat} {xs : List Value} (h : w.ownsRow B e 1 v n xs) (hn : 0 < n) : v ≠ .slice none 0 0 := by
  obtain ⟨b, c, rfl⟩ := own_form h hn
  simp

open Go.Sort in
/-- slices.Sort of a row of numbers of the call's own. -/
theorem sortInt_c {w : World} {B : Nat} {v : Value} {n : Nat} {L : List Nat} (h : w.ownsRow B 3 1 v n (ints L)) (hn : L.length = n) (hlen : n ≤ 1099511627776) :
    Calls Try.prog 19 #[v] w fun r w' => r = .returned (.tuple #[]) ∧ (∃ L' : List Nat, L'.Perm L ∧ w'.ownsRow B 3 1 v n (ints L')) ∧ Keeps (fun k => v.ownBlock = some k) w w' := by
  subst hn
  by_cases hL : L = []
  · subst hL
    obtain ⟨a, c, rfl⟩ := own_len h
    refine (Any.slices_Sort_int_none sortInt_lays a c w).mono ?_
    rintro r w' ⟨rfl, rfl⟩
    exact ⟨rfl, ⟨[], .refl _, h⟩, Keeps.refl _ _⟩
  · have hpos : 0 < L.length := List.length_pos_iff.2 hL
    have h' : w.ownsRow B 3 1 v L.length ((L.map (fun (x : Nat) => (x : Int))).map (Value.int .i64)) := by rw [ints_map]; exact h
    obtain ⟨g, cap, rfl, hB, hlt, _, _, _, hH⟩ := Go.Lib.holds_of_ownsRow h' (row_some h hpos)
    have := Any.slices_Sort_int sortInt_lays g 0 cap (L.map (fun (x : Nat) => (x : Int))) w hH hlt (by simp; omega)
    rw [List.length_map] at this
    refine this.mono ?_
    rintro r w' ⟨rfl, q, os, rfl⟩
    have em : ((L.map (fun (x : Nat) => (x : Int))).mergeSort fun x y => decide (x ≤ y)) = (L.mergeSort fun x y => decide (x ≤ y)).map (fun (x : Nat) => (x : Int)) := by
      rw [List.map_mergeSort]
      intro a _ b _
      simp
    rw [em]
    refine ⟨rfl, ⟨L.mergeSort fun x y => decide (x ≤ y), List.mergeSort_perm _ _, ?_⟩, ?_⟩
    · have o := Go.Lib.ownsRow_putRow (q := q) (k := L.length) (ys := (L.mergeSort fun x y => decide (x ≤ y)).map (fun (x : Nat) => (x : Int))) h' (by simp) (Nat.le_refl _)
      rw [List.take_of_length_le (by simp), ints_map] at o
      exact own_of_blocks o (fun k hk => by
        simp only [Value.ownBlock, Option.some.injEq] at hk
        subst hk
        exact heap_grow_old _ _ (by simpa [putRow, mapBlock, Go.Sort.ahead] using hlt))
    · exact keeps_put.mono (fun k _ hk => by subst hk; rfl)
/-- slices.Compact of a row of numbers, no two of which are equal: nothing goes. -/
theorem compactInt_c {w : World} {B : Nat} {v : Value} {n : Nat} {L : List Nat} (h : w.ownsRow B 3 1 v n (ints L)) (hn : L.length = n) (hd : L.Nodup) (hlen : n ≤ 1099511627776) :
    Calls Try.prog 20 #[v] w fun r w' => (∃ a c, r = .returned (.slice a n c)) ∧ Keeps (fun k => v.ownBlock = some k) w w' := by
  subst hn
  by_cases hL : L = []
  · subst hL
    obtain ⟨a, c, rfl⟩ := own_len h
    refine (Any.slices_Compact_int_empty compInt_lays a c w).mono ?_
    rintro r w' ⟨rfl, rfl⟩
    exact ⟨⟨_, _, rfl⟩, Keeps.refl _ _⟩
  · have hpos : 0 < L.length := List.length_pos_iff.2 hL
    have h' : w.ownsRow B 3 1 v L.length ((L.map (fun (x : Nat) => (x : Int))).map (Value.int .i64)) := by rw [ints_map]; exact h
    obtain ⟨g, cap, rfl, hB, hlt, hc, _, _, hH⟩ := Go.Lib.holds_of_ownsRow h' (row_some h hpos)
    have := Any.slices_Compact_int compInt_lays g 0 cap (L.map (fun (x : Nat) => (x : Int))) w hH (by simp; omega) (by simpa using hc)
    have ec : Go.Lib.compact (L.map (fun (x : Nat) => (x : Int))) = L.map (fun (x : Nat) => (x : Int)) := by
      refine Go.Lib.compact_all _ (fun j hj => ?_)
      by_cases h0 : j = 0
      · subst h0; simp [Go.Lib.keeps]
      · refine Go.Lib.keeps_pos ?_
        have hj' : j < L.length := by simpa using hj
        have h1 : j - 1 < L.length := by omega
        simp only [List.getElem!_toArray, List.getElem!_eq_getElem?_getD, List.getElem?_map, List.getElem?_eq_getElem hj', List.getElem?_eq_getElem h1, Option.map_some, Option.getD_some]
        intro q
        have q' : L[j] = L[j - 1] := by omega
        have e1 := idxOf_of_get hd (List.getElem?_eq_getElem hj')
        have e2 := idxOf_of_get hd (List.getElem?_eq_getElem h1)
        rw [q'] at e1
        omega
    rw [List.length_map, ec] at this
    refine this.mono ?_
    rintro r w' ⟨rfl, q, rfl⟩
    refine ⟨⟨_, _, by rw [List.length_map]⟩, ?_⟩
    have k := keeps_put (w := w) (g := g) (q := q) (d := (L.map (fun (x : Nat) => (x : Int)) ++ List.replicate (L.length - (L.map (fun (x : Nat) => (x : Int))).length) 0).toArray) (os := #[])
    rw [Go.Sort.grow_empty] at k
    exact k.mono (fun k _ hk => by subst hk; rfl)
end Bead
end Go.Proofs.Ytidnmanljdadaaa
