/- slices.IndexFunc and slices.ContainsFunc with the closure of FnPushListKeepsElements. -/
import Derived.Test.YtidnmanljdadaaaScene2
import Derived.Test.YtidnmanljdadaaaMoves
import Derived.Test.YtidnmanljdadaaaLast4
import Derived.Deep.DeepCutAuto
set_option linter.all false
namespace Go.Proofs.Ytidnmanljdadaaa
open Go.RowKit
namespace Bead
set_option maxRecDepth 100000

set_option maxHeartbeats 1000000 in
theorem keeps1_c {w : World} {b : Nat} {y1 : Option Addr} {n y2 : Nat} {z ve : Value} {x : Nat} (hb0 : w.cell? ⟨b, 0, none⟩ = some (.slice y1 n y2)) (hx : n < x) (hn : n ≤ 600000000) (hx2 : x ≤ 4611686018427387904) :
    Calls Try.prog 35 #[.int .i64 x, .pointer (some ⟨b, 0, none⟩)] w fun r w' => r = .returned (.bool false) ∧ w' = w := by
  have q : decide (x ≤ n) = false := by simp; omega
  go_enter Try.func35, Try.ntmps35
  go_wp2
  go_ret
  exact ⟨rfl, rfl⟩
set_option maxHeartbeats 1000000 in
theorem indexFunc_c {w : World} {v : Value} {L : List Nat} {b : Nat} {y1 : Option Addr} {n y2 : Nat} (h : Nats w v L) (hb0 : w.cell? ⟨b, 0, none⟩ = some (.slice y1 n y2)) (hL : ∀ x ∈ L, n < x ∧ x ≤ 4611686018427387904) (hn : n ≤ 600000000) (hlen : L.length ≤ 4611686018427387904) :
    Calls Try.prog 50 #[v, .func (.func 35) #[] #[.pointer (some ⟨b, 0, none⟩)]] w fun r w' => r = .returned (.int .i64 (-1)) ∧ w' = w := by
  have H := Lib.hid h
  have HL := Lib.hid hL
  have K1 := Lib.hid (fun x hx hx2 => keeps1_c (w := w) (b := b) (y1 := y1) (n := n) (y2 := y2) (z := .int .i64 0) (ve := .int .i64 0) (x := x) hb0 hx hn hx2)
  obtain ⟨a, c, rfl⟩ := h.form
  clear h hL hb0
  go_enter Try.func50, Try.ntmps50
  go_wp2_with fail
  go_loopg [8] L.length (fun m k wr => ∃ j, j + m = L.length ∧ k = .int .i64 j ∧ wr = w)
  case atStart => exact ⟨0, by omega, rfl, rfl⟩
  case round =>
    obtain ⟨j, hj, rfl, rfl⟩ := hrel
    by_cases hk0 : gk = 0
    · subst hk0
      obtain rfl : j = L.length := by omega
      clear hj
      go_wp2
      go_ret
      exact ⟨rfl, rfl⟩
    · have hjl : j < L.length := by omega
      obtain ⟨x, hx⟩ : ∃ x, L[j]? = some x := ⟨_, List.getElem?_eq_getElem hjl⟩
      obtain ⟨b1, o1, p1, hv1, cell1⟩ := H.out.cells (by intro q; rw [q] at hx; simp at hx)
      simp only [Value.slice.injEq] at hv1
      obtain ⟨rfl, hz1, rfl⟩ := hv1
      clear hz1
      have e1 := cell1 j x hx
      obtain ⟨h1, h2⟩ := HL.out x (List.mem_of_getElem? hx)
      have KK := Lib.hid (K1.out x h1 h2)
      have HJ := Lib.hid hj
      clear hx cell1 hj h1 h2
      go_wp2_with fail
      refine KK.out.mono ?_
      rintro r w1 ⟨rfl, rfl⟩
      go_wp2
      go_roundg (gk - 1)
      case measure => omega
      case rel => exact ⟨j + 1, by have := HJ.out; omega, by go_num, rfl⟩
theorem containsFunc_c {w : World} {v : Value} {L : List Nat} {b : Nat} {y1 : Option Addr} {n y2 : Nat} (h : Nats w v L) (hb0 : w.cell? ⟨b, 0, none⟩ = some (.slice y1 n y2)) (hL : ∀ x ∈ L, n < x ∧ x ≤ 4611686018427387904) (hn : n ≤ 600000000) (hlen : L.length ≤ 4611686018427387904) :
    Calls Try.prog 34 #[v, .func (.func 35) #[] #[.pointer (some ⟨b, 0, none⟩)]] w fun r w' => r = .returned (.bool false) ∧ w' = w := by
  have IX := Lib.hid (indexFunc_c h hb0 hL hn hlen)
  clear h hb0 hL
  go_enter Try.func34, Try.ntmps34
  go_wp2_with fail
  refine IX.out.mono ?_
  rintro r w1 ⟨rfl, rfl⟩
  go_wp2
  go_ret
  exact ⟨rfl, rfl⟩
/-- The first numbers of a row, and the rest. -/
theorem nats_take {w : World} {a : Option Addr} {n n1 c : Nat} {L1 L2 : List Nat} (h : Nats w (.slice a n c) (L1 ++ L2)) (hn : n1 = L1.length) (c' : Nat) : Nats w (.slice a n1 c') L1 := by
  subst hn
  refine ⟨a, c', rfl, fun hne => ?_⟩
  have hL : L1 ≠ [] := by intro q; subst q; exact hne rfl
  obtain ⟨b, off, cap, hv, hc⟩ := h.cells (by simp [hL])
  simp only [Value.slice.injEq] at hv
  obtain ⟨rfl, _⟩ := hv
  refine ⟨b, off, rfl, fun k x hx => ?_⟩
  simp only [ints, List.getElem?_map, Option.map_eq_some_iff] at hx
  obtain ⟨y, hy, rfl⟩ := hx
  exact hc k y (by rw [List.getElem?_append_left (List.getElem?_eq_some_iff.1 hy).1]; exact hy)
theorem nats_drop {w : World} {a : Option Addr} {n n1 n2 c : Nat} {L1 L2 : List Nat} (h : Nats w (.slice a n c) (L1 ++ L2)) (hn : n1 = L1.length) (hm : n2 = L2.length) (c' : Nat) : Nats w (.slice (Option.map (fun x => x.add n1) a) n2 c') L2 := by
  subst hn hm
  refine ⟨_, c', rfl, fun hne => ?_⟩
  have hL : L2 ≠ [] := by intro q; subst q; exact hne rfl
  obtain ⟨b, off, cap, hv, hc⟩ := h.cells (by simp [hL])
  simp only [Value.slice.injEq] at hv
  obtain ⟨rfl, _⟩ := hv
  have he : (⟨b, off, none⟩ : Addr).add L1.length = ⟨b, off + L1.length, none⟩ := by
    unfold Addr.add
    split
    · rename_i z; rw [z]; rfl
    · rfl
  refine ⟨b, off + L1.length, by simp only [Option.map_some, he], fun k x hx => ?_⟩
  simp only [ints, List.getElem?_map, Option.map_eq_some_iff] at hx
  obtain ⟨y, hy, rfl⟩ := hx
  rw [Nat.add_assoc]
  exact hc (L1.length + k) y (by rw [List.getElem?_append_right (by omega), Nat.add_sub_cancel_left]; exact hy)
theorem nats_rest {w : World} {a b : Option Addr} {n n1 n2 c : Nat} {L1 L2 : List Nat} (h : Nats w (.slice a n c) (L1 ++ L2)) (hn : n1 = L1.length) (hm : n2 = L2.length) (hc : n1 + n2 ≤ c) (hb : (if c = n1 then a else Option.map (fun x => x.add n1) a) = b) (c' : Nat) : Nats w (.slice b n2 c') L2 := by
  split at hb
  · have : L2 = [] := List.length_eq_zero_iff.1 (by omega)
    subst this hm
    exact ⟨b, c', rfl, fun q => absurd rfl q⟩
  · subst hb
    exact nats_drop h hn hm c'
theorem keeps_bound {M : List Cl} {l x : Nat} {L1 L2 : List Nat} (hok : okFrom 500 Md.init M = true) (hl : M.length ≤ 1099511627776) (he : (runFrom Md.init M).names ((runFrom Md.init M).seq l) = L1 ++ L2) (hx : x ∈ L1 ∨ x ∈ L2) : x ≤ 4611686018427387904 := by
  have hw := WF.run M WF.init hok
  have hc := run_cnt_le _ hok (by simp [Md.init])
  have hs := hw.seq_le l
  have hm : x ∈ (runFrom Md.init M).names ((runFrom Md.init M).seq l) := by rw [he]; simpa using hx
  simp only [Md.names, List.mem_map] at hm
  obtain ⟨e, hm, rfl⟩ := hm
  unfold Md.name
  have hn := run_init_len M
  cases hf : (runFrom Md.init M).fst e with
  | none =>
    have := List.idxOf_lt_length_of_mem hm
    simp only [Option.getD_none]; omega
  | some i =>
    have := (hw.rlt i e (hw.fst1 e i hf).1).1
    simp only [Option.getD_some]; omega
/-- The sights of all lists, as a row lies in memory. -/
structure RowOf (wr : World) (M : Md) (Ls : List Nat) (v : Value) (XS : List SV) : Prop where
  len : XS.length = Ls.length
  own : ∃ B, wr.ownsRow B 54 4 v Ls.length (XS.flatMap SV.cells)
  seen : ∀ (k l : Nat) (s : SV), Ls[k]? = some l → XS[k]? = some s → Seen wr M l s
theorem RowOf.of {w wr : World} {M : Md} {Ls : List Nat} {v : Value} {XS : List SV} (h : AAt w wr M Ls Ls.length v XS) : RowOf wr M Ls v XS := ⟨h.len, ⟨_, h.own⟩, h.seen⟩
theorem RowOf.later {wr w5 : World} {M : Md} {Ls : List Nat} {v : Value} {XS : List SV} (h : RowOf wr M Ls v XS) (hb : Below wr.heap.size wr w5) : RowOf w5 M Ls v XS :=
  ⟨h.len, by obtain ⟨B, q⟩ := h.own; exact ⟨B, own_below q hb⟩, fun k l s h1 h2 => (h.seen k l s h1 h2).later hb⟩
/-- What all rounds know. -/
structure KEAt (w wr : World) (g1 g3 : Nat) (ns : List Cl) (l : Nat) (vs ve vx : Value) (XS : List SV) : Prop where
  box : wr.heap[g1]? = some (.cells #[vs, .int .i64 (l : Nat), ve] 63 (0, 0))
  ops : wr.heap[g3]? = some (.cells #[.int .i64 12, .int .i64 13] 3 (0, 0))
  scr : Scr wr vs ns
  row : RowOf wr (runFrom Md.init ns) (listsOf ns) vx XS
  below : Below w.heap.size w wr
theorem KEAt.later {w wr w2 : World} {g1 g3 l : Nat} {ns : List Cl} {vs ve vx : Value} {XS : List SV} (h : KEAt w wr g1 g3 ns l vs ve vx XS) (hb : Below wr.heap.size wr w2) : KEAt w w2 g1 g3 ns l vs ve vx XS :=
  ⟨heap_later h.box hb, heap_later h.ops hb, h.scr.later hb, h.row.later hb, h.below.trans (hb.mono h.below.size)⟩
set_option maxHeartbeats 16000000 in
theorem keepsElems_c {w : World} {v : Value} {cs : List Cl} (s : Scr w v cs) (hn : cs.length ≤ 1048576) (n m : Int) :
    Calls Try.prog 8 #[v, .int .i64 n, .int .i64 m] w fun r w' => r = .returned (.bool true) ∧ Below w.heap.size w w' := by
  have ST := Lib.hid (set_c s hn n)
  have S := Lib.hid s
  clear s
  go_enter Try.func8, Try.ntmps8
  go_wp2_with fail
  refine ST.out.mono ?_
  rintro r w1 ⟨hb1, hcase⟩
  have B1 := Lib.hid hb1
  clear hb1 ST
  rcases hcase with ⟨l, vs, ve, rfl, hsc, hok0, hl0, hs1, hn1⟩ | rfl
  · have SC := Lib.hid hsc; have S1 := Lib.hid hs1
    have LO := Lib.hid (named_lists cs)
    have HL0 := Lib.hid hl0
    have LS := Lib.hid (fun o => lists_c ((S.out.later B1.out).later (below1 w1 o)) (by omega))
    have hll : (listsOf cs).length ≤ cs.length := listsAt_length cs 0
    generalize hns : namedC cs = ns at *
    clear hns hsc hok0 hl0
    obtain ⟨y1, y2, rfl⟩ := hs1.form
    obtain ⟨x1, x2, rfl⟩ := hn1.form
    have LN := SC.out.len
    generalize ((runFrom Md.init ns).names ((runFrom Md.init ns).seq l)).length = NE at *
    clear hs1 hn1
    go_wp2_with fail
    refine (LS.out _).mono ?_
    rintro r w2 ⟨vl, rfl, rl, hb2⟩
    have BX := Lib.hid (heap_later (heap_alloc_new w1 (.cells #[.slice y1 ns.length y2, .int .i64 (l : Nat), .slice x1 NE x2] 63)) hb2)
    have B2 := Lib.hid (B1.out.trans (((below1 w1 _).trans (hb2.mono (by simp))).mono B1.out.size))
    have S2 := Lib.hid ((S1.out.later (below1 w1 _)).later hb2)
    have NT : Nats w2 vl (listsOf cs) := Nats.of_own rl
    have CH := Lib.hid (chosen_c NT (by intro q; have := HL0.out; rw [q] at this; simp at this) (by omega) m)
    clear hb2 rl LS NT
    go_wp2_with fail
    refine CH.out.mono ?_
    rintro r w2' ⟨o, ho, rfl, rfl⟩
    obtain ⟨w2, rfl⟩ : ∃ W, W = w2' := ⟨_, rfl⟩
    have HO := Lib.hid ho
    have b0 := cell_of_heap (o := 0) BX.out rfl
    have b1 := cell_of_heap (o := 1) BX.out rfl
    have b2 := cell_of_heap (o := 2) BX.out rfl
    clear CH ho
    have z1 : w1.heap.size < w2.heap.size := (Array.getElem?_eq_some_iff.1 BX.out).1
    have WA : Hid (Calls Try.prog 30 #[.agg #[.slice y1 ns.length y2, .int .i64 (l : Nat), .slice x1 NE x2], .slice (some ⟨w2.heap.size, 0, none⟩) 1 1] (w2.alloc (.cells #[.int .i64 12, .int .i64 0, .int .i64 (o : Nat), .int .i64 0, .int .i64 0, .int .i64 0, .int .i64 0, .string ⟨#[]⟩] 32)) fun r w' => ∃ v', r = .returned v' ∧ Scr w' v' (ns ++ [cLs 12 o].map (onL l)) ∧ Below (w2.alloc (.cells #[.int .i64 12, .int .i64 0, .int .i64 (o : Nat), .int .i64 0, .int .i64 0, .int .i64 0, .int .i64 0, .string ⟨#[]⟩] 32)).heap.size (w2.alloc (.cells #[.int .i64 12, .int .i64 0, .int .i64 (o : Nat), .int .i64 0, .int .i64 0, .int .i64 0, .int .i64 0, .string ⟨#[]⟩] 32)) w') :=
      with_c (cl := [cLs 12 o]) (S2.out.later (below1 w2 _)) (scr_lit w2 [cLs 12 o] 32 w2.heap.size 1 rfl rfl (by simp [cLs]; exact vl_zero_ok)) ⟨_, _, _, rfl⟩ (by simp; omega)
    go_wp2_with fail
    refine WA.out.mono ?_
    rintro r w3 ⟨v3, rfl, s3, hb3⟩
    have hb23 := (below1 w2 _).trans (hb3.mono (by simp))
    have BX3 := Lib.hid (heap_later BX.out hb23)
    have B3 := Lib.hid (B2.out.trans (hb23.mono B2.out.size))
    have S3 := Lib.hid (S2.out.later hb23)
    have PM := Lib.hid (permittedL_c s3.sl (by simp; omega))
    clear hb3 s3 WA hb23 b0 b1 b2 BX B2 S2
    go_wp2_with fail
    refine PM.out.mono ?_
    rintro r w4 ⟨rfl, hb4⟩
    have BX4 := Lib.hid (heap_later BX3.out hb4)
    have B4 := Lib.hid (B3.out.trans (hb4.mono B3.out.size))
    have S4 := Lib.hid (S3.out.later hb4)
    clear hb4 PM BX3 B3 S3
    cases hok : okFrom 500 Md.init (ns ++ [cLs 12 o].map (onL l)) with
    | false =>
      clear hok
      go_wp2
      go_ret
      exact ⟨rfl, B4.out⟩
    | true =>
      have OK := Lib.hid hok
      clear hok
      have hol : (runFrom Md.init ns).isL o = true := mem_lists o (by rw [LO.out]; exact HO.out)
      have HOL := Lib.hid hol
      have AL := Lib.hid (all_c S4.out S4.out SC.out.ok (fun l hl => mem_lists l hl) (by decide) (by omega) (by omega))
      have b0 := cell_of_heap (o := 0) BX4.out rfl
      clear hol
      go_wp2_with fail
      refine AL.out.mono ?_
      rintro r w5 ⟨vx, XS, rfl, hX⟩
      have b05 := cell_of_heap (o := 0) (heap_later BX4.out hX.below) rfl
      have A0 : Hid (KEAt w (w5.alloc (.cells #[.int .i64 12, .int .i64 13] 3)) w1.heap.size w5.heap.size ns l (.slice y1 ns.length y2) (.slice x1 NE x2) vx XS) :=
        ⟨heap_more (heap_later BX4.out hX.below) _, heap_alloc_new w5 _, (S4.out.later hX.below).later (below1 w5 _), (RowOf.of hX).later (below1 w5 _), (B4.out.trans (hX.below.mono B4.out.size)).trans ((below1 w5 _).mono (Nat.le_trans B4.out.size hX.below.size))⟩
      have z5 : w1.heap.size < w5.heap.size := Nat.lt_of_lt_of_le (Array.getElem?_eq_some_iff.1 BX4.out).1 hX.below.size
      clear hX AL b0 b05 BX4 S4 B4
      go_wp2_with fail
      go_loopg [63] 2 (fun n k wr => ∃ j, j + n = 2 ∧ k = .int .i64 j ∧ KEAt w wr w1.heap.size w5.heap.size ns l (.slice y1 ns.length y2) (.slice x1 NE x2) vx XS)
      case atStart => exact ⟨0, rfl, rfl, A0.out⟩
      case round =>
      clear A0
      obtain ⟨j, hj, rfl, hA⟩ := hrel
      have Br := Lib.hid hA.below
      rcases (show j = 2 ∨ j = 0 ∨ j = 1 by omega) with rfl | rfl | rfl
      · obtain rfl : gk = 0 := by omega
        clear hA hj
        go_wp2
        go_ret
        exact ⟨rfl, Br.out⟩
      · obtain rfl : gk = 2 := by omega
        have p0 := cell_of_heap (o := 0) hA.ops rfl
        have b0 := cell_of_heap (o := 0) hA.box rfl
        have b1 := cell_of_heap (o := 1) hA.box rfl
        have b2 := cell_of_heap (o := 2) hA.box rfl
        have HA := Lib.hid hA
        have PK := Lib.hid (push_keeps (o := o) SC.out false _ _ rfl rfl OK.out)
        simp only [Bool.false_eq_true, if_false, if_true] at PK
        have HSW : Hid (∀ W, Below wr.heap.size wr W → (fun X : World => X.cell? ⟨w1.heap.size, 0, none⟩ = some (.slice y1 ns.length y2) ∧ X.cell? ⟨w1.heap.size, 1, none⟩ = some (.int .i64 (l : Nat)) ∧ X.cell? ⟨w1.heap.size, 2, none⟩ = some (.slice x1 NE x2)) W) := fun W hb => ⟨cell_of_heap (o := 0) (heap_later HA.out.box hb) rfl, cell_of_heap (o := 1) (heap_later HA.out.box hb) rfl, cell_of_heap (o := 2) (heap_later HA.out.box hb) rfl⟩
        clear hA hj b0 b1 b2
        go_wp2_with fail
        clear p0
        refine wp_region_T (fun X : World => X.cell? ⟨w1.heap.size, 0, none⟩ = some (.slice y1 ns.length y2) ∧ X.cell? ⟨w1.heap.size, 1, none⟩ = some (.int .i64 (l : Nat)) ∧ X.cell? ⟨w1.heap.size, 2, none⟩ = some (.slice x1 NE x2)) [6, 7, 8] [] run_mixed ?_
        simp only [List.size_toArray, List.length_cons, List.length_nil]
        have hbd : Below wr.heap.size wr wr.drew := (Below.refl _ wr).drew
        have H0 := Lib.hid hbd
        generalize wr.drew = wk at *
        have HS := HSW.out _ hbd
        clear hbd
        refine wpT_takeG (i := 0) (v := ?vfa0) rfl (by kernel_rfl) (fun _ _ _ h => h) rfl ?yfa0 ?rfa0
        case yfa0 => ((intro wz; go_simp); try with_reducible rfl)
        try simp only [Act.put, List.setIfInBounds_toArray, List.set_cons_zero, List.set_cons_succ]
        refine wpT_loadG (i := 1) (v := ?vfa1) rfl (by kernel_rfl) (fun _ _ _ h => h) rfl ?yfa1 HS ?rfa1
        case yfa1 => ((intro wz hSw; (try dsimp only at hSw); go_split_ands; go_simp); try with_reducible rfl)
        try simp only [Act.put, List.setIfInBounds_toArray, List.set_cons_zero, List.set_cons_succ]
        refine wpT_loadG (i := 2) (v := ?vfa2) rfl (by kernel_rfl) (fun _ _ _ h => h) rfl ?yfa2 HS ?rfa2
        case yfa2 => ((intro wz hSw; (try dsimp only at hSw); go_split_ands; go_simp); try with_reducible rfl)
        try simp only [Act.put, List.setIfInBounds_toArray, List.set_cons_zero, List.set_cons_succ]
        refine wpT_takeG (i := 3) (v := ?vfa3) rfl (by kernel_rfl) (fun _ _ _ h => h) rfl ?yfa3 ?rfa3
        case yfa3 => ((intro wz; go_simp); try with_reducible rfl)
        try simp only [Act.put, List.setIfInBounds_toArray, List.set_cons_zero, List.set_cons_succ]
        refine wpT_takeG (i := 4) (v := ?vfa4) rfl (by kernel_rfl) (fun _ _ _ h => h) rfl ?yfa4 ?rfa4
        case yfa4 => ((intro wz; go_simp); try with_reducible rfl)
        try simp only [Act.put, List.setIfInBounds_toArray, List.set_cons_zero, List.set_cons_succ]
        refine wpT_takeG (i := 5) (v := ?vfa5) rfl (by kernel_rfl) (fun _ _ _ h => h) rfl ?yfa5 ?rfa5
        case yfa5 => ((intro wz; go_simp); try with_reducible rfl)
        try simp only [Act.put, List.setIfInBounds_toArray, List.set_cons_zero, List.set_cons_succ]
        refine wpT_runG (i := 6) (by kernel_rfl) rfl rfl ?_
        go_simp
        have hb1 := below1 wk (.cells #[.int .i64 12, .int .i64 0, .int .i64 (o : Nat), .int .i64 0, .int .i64 0, .int .i64 0, .int .i64 0, .string ⟨#[]⟩] 32)
        have SI : Scr (wk.alloc (.cells #[.int .i64 12, .int .i64 0, .int .i64 (o : Nat), .int .i64 0, .int .i64 0, .int .i64 0, .int .i64 0, .string ⟨#[]⟩] 32)) (.slice (some ⟨wk.heap.size, 0, none⟩) 1 1) [cLs 12 o] := scr_lit wk [cLs 12 o] 32 wk.heap.size 1 rfl rfl (by simp [cLs]; exact vl_zero_ok)
        have H1 := Lib.hid (H0.out.trans (hb1.mono H0.out.size))
        generalize hwa : wk.alloc (.cells #[.int .i64 12, .int .i64 0, .int .i64 (o : Nat), .int .i64 0, .int .i64 0, .int .i64 0, .int .i64 0, .string ⟨#[]⟩] 32) = wa at *
        refine ⟨cond_keep (by decide) (HSW.out _ H1.out), ?_⟩
        refine wpT_runG (i := 7) (by kernel_rfl) rfl rfl ?_
        go_simp
        refine (with_c (l := l) (HA.out.scr.later H1.out) SI ⟨_, _, _, rfl⟩ (by simp; omega)).mono ?_
        rintro r wb ⟨vb, rfl, sb, hbb⟩
        have H2 := Lib.hid (H1.out.trans (hbb.mono H1.out.size))
        refine ⟨cond_keep (by decide) (HSW.out _ H2.out), ?_⟩
        refine wpT_runG (i := 8) (by kernel_rfl) rfl rfl ?_
        go_simp
        refine (all_c (HA.out.scr.later H2.out) sb PK.out.1 (fun k hk => by rw [runFrom_append]; exact run_isL_mono _ (mem_lists k hk)) (by decide) (by omega) (by simp; omega)).mono ?_
        rintro r wf ⟨vy, YS, rfl, hY⟩
        have H3 := Lib.hid (H2.out.trans (hY.below.mono H2.out.size))
        refine ⟨cond_keep (by decide) (HSW.out _ H3.out), ?_⟩
        have RY := Lib.hid (RowOf.of hY)
        have A3 := Lib.hid (HA.out.later H3.out)
        clear HS hb1 SI hwa sb hbb hY
        refine wpT_takeG (i := 9) (v := ?vfb9) rfl (by kernel_rfl) (fun _ _ _ h => h) rfl ?yfb9 ?rfb9
        case yfb9 => ((intro wz; go_simp); try with_reducible rfl)
        try simp only [Act.put, List.setIfInBounds_toArray, List.set_cons_zero, List.set_cons_succ]
        refine wpT_takeG (i := 10) (v := ?vfb10) rfl (by kernel_rfl) (fun _ _ _ h => h) rfl ?yfb10 ?rfb10
        case yfb10 => ((intro wz; go_simp); try with_reducible rfl)
        try simp only [Act.put, List.setIfInBounds_toArray, List.set_cons_zero, List.set_cons_succ]
        refine wpT_takeG (i := 11) (v := ?vfb11) rfl (by kernel_rfl) (fun _ _ _ h => h) rfl ?yfb11 ?rfb11
        case yfb11 => ((intro wz; go_simp); try with_reducible rfl)
        try simp only [Act.put, List.setIfInBounds_toArray, List.set_cons_zero, List.set_cons_succ]
        refine wpT_takeG (i := 12) (v := ?vfb12) rfl (by kernel_rfl) (fun _ _ _ h => h) rfl ?yfb12 ?rfb12
        case yfb12 => ((intro wz; go_simp); try with_reducible rfl)
        try simp only [Act.put, List.setIfInBounds_toArray, List.set_cons_zero, List.set_cons_succ]
        refine wpT_takeG (i := 13) (v := ?vfb13) rfl (by kernel_rfl) (fun _ _ _ h => h) rfl ?yfb13 ?rfb13
        case yfb13 => ((intro wz; go_simp); try with_reducible rfl)
        try simp only [Act.put, List.setIfInBounds_toArray, List.set_cons_zero, List.set_cons_succ]
        refine wpT_done (by kernel_rfl) ?_ _
        have b0 := cell_of_heap (o := 0) A3.out.box rfl
        have LS := Lib.hid (lists_c A3.out.scr (by omega))
        go_wp2_with fail
        refine LS.out.mono ?_
        rintro r wg ⟨vlq, rfl, rlq, hbg⟩
        have A4 := Lib.hid (A3.out.later hbg)
        have RY4 := Lib.hid (RY.out.later hbg)
        have NQ : Hid (Nats wg vlq (listsOf ns)) := Nats.of_own rlq
        obtain ⟨q1, q2, rfl⟩ := own_len rlq
        clear hbg rlq LS b0
        have hll2 : (listsOf ns).length ≤ ns.length := listsAt_length ns 0
        go_wp2_with fail
        go_loopg [89] (listsOf ns).length (fun n k wr => ∃ t, t + n = (listsOf ns).length ∧ k = .int .i64 t ∧ Below wg.heap.size wg wr)
        case atStart => exact ⟨0, by omega, rfl, Below.refl _ _⟩
        case round =>
          obtain ⟨t, ht, rfl, hB⟩ := hrel
          by_cases hk0 : gk = 0
          · subst hk0
            obtain rfl : t = (listsOf ns).length := by omega
            have A5 := Lib.hid (A4.out.later hB)
            clear hB ht
            go_wp2
            go_roundg 1
            case measure => omega
            case rel => exact ⟨1, rfl, by go_num, A5.out⟩
          · have htl : t < (listsOf ns).length := by omega
            obtain ⟨lk, hlk⟩ : ∃ x, (listsOf ns)[t]? = some x := ⟨_, List.getElem?_eq_getElem htl⟩
            obtain ⟨x, hx⟩ : ∃ x, XS[t]? = some x := ⟨_, List.getElem?_eq_getElem (by rw [A4.out.row.len]; exact htl)⟩
            obtain ⟨y, hy⟩ : ∃ y, YS[t]? = some y := ⟨_, List.getElem?_eq_getElem (by rw [RY4.out.len]; exact htl)⟩
            have hsx := (A4.out.row.later hB).seen t lk x hlk hx
            have hsy := (RY4.out.later hB).seen t lk y hlk hy
            obtain ⟨BXo, hxo⟩ := (A4.out.row.later hB).own
            obtain ⟨BYo, hyo⟩ := (RY4.out.later hB).own
            obtain ⟨lb, lo, lp, hlv, hlc⟩ := (NQ.out.later hB).cells (by intro q; rw [q] at hlk; simp at hlk)
            simp only [Value.slice.injEq] at hlv
            obtain ⟨rfl, hzz, rfl⟩ := hlv
            clear hzz
            have el := hlc t lk hlk
            obtain ⟨xb, xc, rfl⟩ := own_form hxo (by omega)
            obtain ⟨yb, yc, rfl⟩ := own_form hyo (by omega)
            have hxe : ∀ i z, x.cells[i]? = some z → wr.cell? ⟨xb, t * 4 + i, none⟩ = some z := fun i z hz => own_elem SV.cells_length hxo (by rw [A4.out.row.len]) hx hz
            have hye : ∀ i z, y.cells[i]? = some z → wr.cell? ⟨yb, t * 4 + i, none⟩ = some z := fun i z hz => own_elem SV.cells_length hyo (by rw [RY4.out.len]) hy hz
            obtain ⟨xe, xk, xv, xn⟩ := x
            obtain ⟨ye, yk, yv, yn⟩ := y
            have hxn := hsx.n
            have hyn := hsy.n
            simp only at hxn hyn
            obtain ⟨ea, ec, rfl⟩ : ∃ a c, xe = .slice a xn c := by obtain ⟨a, c, q⟩ := hsx.reads.elems.form; rw [names_length, ← hxn] at q; exact ⟨a, c, q⟩
            obtain ⟨ba, bc, rfl⟩ : ∃ a c, xk = .slice a xn c := by obtain ⟨a, c, q⟩ := hsx.reads.back.form; rw [List.length_reverse, names_length, ← hxn] at q; exact ⟨a, c, q⟩
            obtain ⟨da, dc, rfl⟩ : ∃ a c, xv = .slice a xn c := by obtain ⟨a, c, q, _⟩ := hsx.reads.vals; rw [List.length_map, ← hxn] at q; exact ⟨a, c, q⟩
            obtain ⟨ea', ec', rfl⟩ : ∃ a c, ye = .slice a yn c := by obtain ⟨a, c, q⟩ := hsy.reads.elems.form; rw [names_length, ← hyn] at q; exact ⟨a, c, q⟩
            obtain ⟨ba', bc', rfl⟩ : ∃ a c, yk = .slice a yn c := by obtain ⟨a, c, q⟩ := hsy.reads.back.form; rw [List.length_reverse, names_length, ← hyn] at q; exact ⟨a, c, q⟩
            obtain ⟨da', dc', rfl⟩ : ∃ a c, yv = .slice a yn c := by obtain ⟨a, c, q, _⟩ := hsy.reads.vals; rw [List.length_map, ← hyn] at q; exact ⟨a, c, q⟩
            obtain ⟨NX, rfl⟩ : ∃ N, N = xn := ⟨_, rfl⟩
            obtain ⟨NY, rfl⟩ : ∃ N, N = yn := ⟨_, rfl⟩
            have xbl : xb < wr.heap.size := World.block_lt_of_cell? wr _ (hxe 0 _ rfl)
            have ybl : yb < wr.heap.size := World.block_lt_of_cell? wr _ (hye 0 _ rfl)
            have HSW2 : Hid (∀ W, Below wr.heap.size wr W → (fun X : World => X.cell? ⟨xb, t * 4, none⟩ = some (.slice ea NX ec) ∧ X.cell? ⟨xb, t * 4 + 1, none⟩ = some (.slice ba NX bc) ∧ X.cell? ⟨xb, t * 4 + 2, none⟩ = some (.slice da NX dc) ∧ X.cell? ⟨xb, t * 4 + 3, none⟩ = some (.int .i64 (NX : Nat)) ∧ X.cell? ⟨yb, t * 4, none⟩ = some (.slice ea' NY ec') ∧ X.cell? ⟨yb, t * 4 + 1, none⟩ = some (.slice ba' NY bc') ∧ X.cell? ⟨yb, t * 4 + 2, none⟩ = some (.slice da' NY dc') ∧ X.cell? ⟨yb, t * 4 + 3, none⟩ = some (.int .i64 (NY : Nat))) W) := fun W hb => ⟨(hb.cell (p := ⟨xb, t * 4, none⟩) xbl).trans (hxe 0 _ rfl), (hb.cell (p := ⟨xb, t * 4 + 1, none⟩) xbl).trans (hxe 1 _ rfl), (hb.cell (p := ⟨xb, t * 4 + 2, none⟩) xbl).trans (hxe 2 _ rfl), (hb.cell (p := ⟨xb, t * 4 + 3, none⟩) xbl).trans (hxe 3 _ rfl), (hb.cell (p := ⟨yb, t * 4, none⟩) ybl).trans (hye 0 _ rfl), (hb.cell (p := ⟨yb, t * 4 + 1, none⟩) ybl).trans (hye 1 _ rfl), (hb.cell (p := ⟨yb, t * 4 + 2, none⟩) ybl).trans (hye 2 _ rfl), (hb.cell (p := ⟨yb, t * 4 + 3, none⟩) ybl).trans (hye 3 _ rfl)⟩
            have HSX := Lib.hid hsx; have HSY := Lib.hid hsy; have HB := Lib.hid hB; have HT := Lib.hid ht; have HLK := Lib.hid hlk
            have HXN := Lib.hid hxn; have HYN := Lib.hid hyn
            clear hsx hsy hB ht hlk hx hy hxo hyo hlc hxe hye hxn hyn xbl ybl
            go_wp2_with fail
            go_cut [19, 20] (fun p q wz => ∃ a b : Nat, p = .pointer (some ⟨a, 0, none⟩) ∧ q = .pointer (some ⟨b, 0, none⟩) ∧ wz.heap[a]? = some (.cells #[.slice ea NX ec, .slice ba NX bc, .slice da NX dc, .int .i64 (NX : Nat)] 54 (0, 0)) ∧ wz.heap[b]? = some (.cells #[.slice ea' NY ec', .slice ba' NY bc', .slice da' NY dc', .int .i64 (NY : Nat)] 54 (0, 0)) ∧ Below wr.heap.size wr wz)
            case first =>
              refine wp_region_T (fun X : World => X.cell? ⟨xb, t * 4, none⟩ = some (.slice ea NX ec) ∧ X.cell? ⟨xb, t * 4 + 1, none⟩ = some (.slice ba NX bc) ∧ X.cell? ⟨xb, t * 4 + 2, none⟩ = some (.slice da NX dc) ∧ X.cell? ⟨xb, t * 4 + 3, none⟩ = some (.int .i64 (NX : Nat)) ∧ X.cell? ⟨yb, t * 4, none⟩ = some (.slice ea' NY ec') ∧ X.cell? ⟨yb, t * 4 + 1, none⟩ = some (.slice ba' NY bc') ∧ X.cell? ⟨yb, t * 4 + 2, none⟩ = some (.slice da' NY dc') ∧ X.cell? ⟨yb, t * 4 + 3, none⟩ = some (.int .i64 (NY : Nat))) [8, 9, 10, 11] [] run_mixed ?_
              simp only [List.size_toArray, List.length_cons, List.length_nil]
              have hbd : Below wr.heap.size wr wr.drew := (Below.refl _ wr).drew
              have K0 := Lib.hid hbd
              generalize wr.drew = wk at *
              have HS := HSW2.out _ hbd
              clear hbd
              refine wpT_takeG (i := 0) (v := ?vfc0) rfl (by kernel_rfl) (fun _ _ _ h => h) rfl ?yfc0 ?rfc0
              case yfc0 => ((intro wz; go_simp); try with_reducible rfl)
              try simp only [Act.put, List.setIfInBounds_toArray, List.set_cons_zero, List.set_cons_succ]
              refine wpT_takeG (i := 1) (v := ?vfc1) rfl (by kernel_rfl) (fun _ _ _ h => h) rfl ?yfc1 ?rfc1
              case yfc1 => ((intro wz; go_simp); try with_reducible rfl)
              try simp only [Act.put, List.setIfInBounds_toArray, List.set_cons_zero, List.set_cons_succ]
              refine wpT_takeG (i := 2) (v := ?vfc2) rfl (by kernel_rfl) (fun _ _ _ h => h) rfl ?yfc2 ?rfc2
              case yfc2 => ((intro wz; go_simp); try with_reducible rfl)
              try simp only [Act.put, List.setIfInBounds_toArray, List.set_cons_zero, List.set_cons_succ]
              refine wpT_loadG (i := 3) (v := ?vfc3) rfl (by kernel_rfl) (fun _ _ _ h => h) rfl ?yfc3 HS ?rfc3
              case yfc3 => ((intro wz hSw; (try dsimp only at hSw); go_split_ands; go_simp); try with_reducible rfl)
              try simp only [Act.put, List.setIfInBounds_toArray, List.set_cons_zero, List.set_cons_succ]
              refine wpT_takeG (i := 4) (v := ?vfc4) rfl (by kernel_rfl) (fun _ _ _ h => h) rfl ?yfc4 ?rfc4
              case yfc4 => ((intro wz; go_simp); try with_reducible rfl)
              try simp only [Act.put, List.setIfInBounds_toArray, List.set_cons_zero, List.set_cons_succ]
              refine wpT_takeG (i := 5) (v := ?vfc5) rfl (by kernel_rfl) (fun _ _ _ h => h) rfl ?yfc5 ?rfc5
              case yfc5 => ((intro wz; go_simp); try with_reducible rfl)
              try simp only [Act.put, List.setIfInBounds_toArray, List.set_cons_zero, List.set_cons_succ]
              refine wpT_takeG (i := 6) (v := ?vfc6) rfl (by kernel_rfl) (fun _ _ _ h => h) rfl ?yfc6 ?rfc6
              case yfc6 => ((intro wz; go_simp); try with_reducible rfl)
              try simp only [Act.put, List.setIfInBounds_toArray, List.set_cons_zero, List.set_cons_succ]
              refine wpT_loadG (i := 7) (v := ?vfc7) rfl (by kernel_rfl) (fun _ _ _ h => h) rfl ?yfc7 HS ?rfc7
              case yfc7 => ((intro wz hSw; (try dsimp only at hSw); go_split_ands; go_simp); try with_reducible rfl)
              try simp only [Act.put, List.setIfInBounds_toArray, List.set_cons_zero, List.set_cons_succ]
              refine wpT_two (i := 8) (j := 9) (by kernel_rfl) rfl rfl rfl rfl ?_ ?_
              · go_simp
                refine ⟨cond_keep (by decide) (HSW2.out _ (K0.out.trans ((below1 wk _).mono K0.out.size))), ?_⟩
                refine wpT_runG (i := 9) (by kernel_rfl) rfl rfl ?_
                go_simp
                refine ⟨cond_keep (by decide) (HSW2.out _ (K0.out.trans ((below2 wk _ _).mono K0.out.size))), ?_⟩
                refine wpT_runG (i := 10) (by kernel_rfl) rfl rfl ?_
                go_simp
                refine ⟨cond_keep (by decide) (HSW2.out _ (K0.out.trans ((below2 wk _ _).mono K0.out.size))), ?_⟩
                refine wpT_runG (i := 11) (by kernel_rfl) rfl rfl ?_
                go_simp
                refine ⟨cond_keep (by decide) (HSW2.out _ (K0.out.trans ((below2 wk _ _).mono K0.out.size))), ?_⟩
                refine wpT_done (by kernel_rfl) ?_ _
                clear HS
                go_wp2
                go_meet
                case rel => exact ⟨wk.heap.size, wk.heap.size + 1, rfl, rfl, heap_more (heap_alloc_new wk _) _, (by have := heap_alloc_new (wk.alloc (.cells #[.slice ea NX ec, .slice ba NX bc, .slice da NX dc, .int .i64 (NX : Nat)] 54)) (.cells #[.slice ea' NY ec', .slice ba' NY bc', .slice da' NY dc', .int .i64 (NY : Nat)] 54); simpa using this), K0.out.trans ((below2 wk _ _).mono K0.out.size)⟩
              · go_simp
                refine ⟨cond_keep (by decide) (HSW2.out _ (K0.out.trans ((below1 wk _).mono K0.out.size))), ?_⟩
                refine wpT_runG (i := 8) (by kernel_rfl) rfl rfl ?_
                go_simp
                refine ⟨cond_keep (by decide) (HSW2.out _ (K0.out.trans ((below2 wk _ _).mono K0.out.size))), ?_⟩
                refine wpT_runG (i := 10) (by kernel_rfl) rfl rfl ?_
                go_simp
                refine ⟨cond_keep (by decide) (HSW2.out _ (K0.out.trans ((below2 wk _ _).mono K0.out.size))), ?_⟩
                refine wpT_runG (i := 11) (by kernel_rfl) rfl rfl ?_
                go_simp
                refine ⟨cond_keep (by decide) (HSW2.out _ (K0.out.trans ((below2 wk _ _).mono K0.out.size))), ?_⟩
                refine wpT_done (by kernel_rfl) ?_ _
                clear HS
                go_wp2
                go_meet
                case rel => exact ⟨wk.heap.size + 1, wk.heap.size, rfl, rfl, (by have := heap_alloc_new (wk.alloc (.cells #[.slice ea' NY ec', .slice ba' NY bc', .slice da' NY dc', .int .i64 (NY : Nat)] 54)) (.cells #[.slice ea NX ec, .slice ba NX bc, .slice da NX dc, .int .i64 (NX : Nat)] 54); simpa using this), heap_more (heap_alloc_new wk _) _, K0.out.trans ((below2 wk _ _).mono K0.out.size)⟩
            case rest =>
              obtain ⟨pa, pb, rfl, rfl, ga, gb, hcb⟩ := hcut
              have A5 := Lib.hid ((A4.out.later HB.out).later hcb)
              have b1 := cell_of_heap (o := 1) A5.out.box rfl
              have B5 := Lib.hid (HB.out.trans (hcb.mono HB.out.size))
              by_cases hne : lk = l
              · obtain rfl : l = lk := hne.symm
                have qn : ((l : Int) != (l : Int)) = false := by simp
                obtain ⟨F, hF, hFi, hFe⟩ := PK.out.2.2.2
                have rx := (HSX.out.later hcb).reads.elems
                have ry := (HSY.out.later hcb).reads.elems
                simp only [List.map_cons, List.map_nil] at ry
                rw [hFe] at ry
                have roomy : NY ≤ ec' := HSY.out.room _ _ _ rfl
                have roomx : NX ≤ ec := HSX.out.room _ _ _ rfl
                have hNX : NX = ((runFrom Md.init ns).names ((runFrom Md.init ns).seq l)).length := by rw [names_length]; exact HXN.out
                have hNY : NY = NX + ((runFrom Md.init ns).seq o).length := by
                  have q := HYN.out
                  simp only [List.map_cons, List.map_nil] at q
                  rw [← names_length (m := runFrom Md.init (ns ++ [onL l (cLs 12 o)])), hFe] at q
                  simp only [List.length_append] at q
                  omega
                have LI := Lib.hid (listed_c (l := o) A5.out.scr SC.out.ok HOL.out (by omega))
                have b0 := cell_of_heap (o := 0) A5.out.box rfl
                have x0 := cell_of_heap (o := 0) ga rfl
                have x1' := cell_of_heap (o := 1) ga rfl
                have x2' := cell_of_heap (o := 2) ga rfl
                have x3' := cell_of_heap (o := 3) ga rfl
                have y0 := cell_of_heap (o := 0) gb rfl
                have y1' := cell_of_heap (o := 1) gb rfl
                have y2' := cell_of_heap (o := 2) gb rfl
                have y3' := cell_of_heap (o := 3) gb rfl
                have RX := Lib.hid rx; have RYE := Lib.hid ry; have GA := Lib.hid ga; have GB := Lib.hid gb; have HNX := Lib.hid hNX; have HNY := Lib.hid hNY; have HF := Lib.hid hF; have HFI := Lib.hid hFi; have HFE := Lib.hid hFe
                clear hcb hne ga gb hFe hF hFi rx ry hNX hNY
                go_wp2_with fail
                refine LI.out.mono ?_
                rintro r wz ⟨v2, v3, rfl, _, ro3, hbz⟩
                obtain ⟨z1, z2, rfl⟩ := own_len ro3
                have hbl : ((runFrom Md.init ns).seq l).length ≤ 500 := by
                  have := SC.out.wf.seq_le l
                  have := run_cnt_le _ SC.out.ok (by simp [Md.init])
                  omega
                have hbo : ((runFrom Md.init ns).seq o).length ≤ 500 := by
                  have := SC.out.wf.seq_le o
                  have := run_cnt_le _ SC.out.ok (by simp [Md.init])
                  omega
                have hNX5 : NX ≤ 500 := by have := HNX.out; rw [names_length] at this; omega
                have x0 := cell_of_heap (o := 0) (heap_later GA.out hbz) rfl
                have y0 := cell_of_heap (o := 0) (heap_later GB.out hbz) rfl
                have nx := Lib.hid (RX.out.later hbz)
                have ny := Lib.hid (RYE.out.later hbz)
                have A6 := Lib.hid (A5.out.later hbz)
                have B6 := Lib.hid (B5.out.trans (hbz.mono B5.out.size))
                have HY := HNY.out
                clear LI ro3 hbz hbl
                generalize ((runFrom Md.init ns).seq o).length = NO at *
                have qq : ((NY : Int) != (NX : Int) + (NO : Int)) = false := by simp; omega
                have HY2 := Lib.hid HY
                have yle : NX ≤ NY := by omega
                have noy : NO ≤ NY := by omega
                have hNY5 : NY ≤ 1000 := by omega
                clear HY
                go_wp2_with fail
                have FB : Hid (∀ x ∈ F, ns.length < x ∧ x ≤ 4611686018427387904) := fun x hx => ⟨HFI.out x hx, keeps_bound PK.out.1 (by rw [List.length_append]; simp; omega) HFE.out (.inr hx)⟩
                go_quiet (fail)
                generalize hfr : (if ec' = NX then ea' else Option.map (fun x => x.add NX) ea') = fa
                have HFR := Lib.hid hfr
                clear hfr
                have EQ : Hid (∀ d, Calls Try.prog 28 #[.slice ea' NX ec', .slice ea NX ec] (wz.drewN d) fun r w' => r = .returned (.bool true) ∧ ∃ d', w' = (wz.drewN d).drewN d') := fun d => equalInt_c (Nats.drewN (nats_take ny.out HNX.out _) d) (Nats.drewN nx.out d) (by have := HNX.out; omega)
                have CF : Hid (∀ d, Calls Try.prog 34 #[.slice fa (NY - NX) (ec' - NX), .func (.func 35) #[] #[.pointer (some ⟨w1.heap.size, 0, none⟩)]] (wz.drewN d) fun r w' => r = .returned (.bool false) ∧ w' = wz.drewN d) := fun d => containsFunc_c (L := F) (Nats.drewN (nats_rest ny.out HNX.out (by have := HY2.out; have := HF.out; omega) (by omega) HFR.out _) d) (cell_of_heap (o := 0) A6.out.box rfl) FB.out (by omega) (by have := HF.out; omega)
                go_wp2_with fail
                refine (EQ.out _).mono ?_
                rintro r wq ⟨rfl, d', rfl⟩
                go_wp2_with fail
                refine (CF.out _).mono ?_
                rintro r wq ⟨rfl, rfl⟩
                go_wp2
                go_roundg (gk - 1)
                case measure => omega
                case rel => exact ⟨t + 1, by have := HT.out; omega, by go_num, Below.drewN' B6.out _⟩
              · have qn : ((lk : Int) != (l : Int)) = true := by simp; omega
                have LK := PK.out.2.2.1 lk hne
                have rx := (HSX.out.later hcb).reads
                have ry := (HSY.out.later hcb).reads
                simp only [List.map_cons, List.map_nil] at ry
                rw [LK.names, LK.vals] at ry
                have hNN : NX = NY := by have q := HYN.out; simp only [List.map_cons, List.map_nil] at q; rw [HXN.out, q, LK.seq]
                have hb5 : ((runFrom Md.init ns).seq lk).length ≤ 500 := by
                  have := SC.out.wf.seq_le lk
                  have := run_cnt_le _ SC.out.ok (by simp [Md.init])
                  omega
                have SM := Lib.hid (same_c rx ry hNN (by rw [names_length]; omega) (by rw [List.length_map]; omega))
                have x0 := cell_of_heap (o := 0) ga rfl
                have x1' := cell_of_heap (o := 1) ga rfl
                have x2' := cell_of_heap (o := 2) ga rfl
                have x3' := cell_of_heap (o := 3) ga rfl
                have y0 := cell_of_heap (o := 0) gb rfl
                have y1' := cell_of_heap (o := 1) gb rfl
                have y2' := cell_of_heap (o := 2) gb rfl
                have y3' := cell_of_heap (o := 3) gb rfl
                simp only [SV.agg] at SM
                clear LK rx ry hNN hb5 hne ga gb hcb
                go_wp2_with fail
                refine SM.out.mono ?_
                rintro r wz ⟨rfl, hbz⟩
                have B6 := Lib.hid (B5.out.trans (hbz.mono B5.out.size))
                clear hbz SM
                go_wp2
                go_roundg (gk - 1)
                case measure => omega
                case rel => exact ⟨t + 1, by have := HT.out; omega, by go_num, B6.out⟩
      · obtain rfl : gk = 1 := by omega
        have p0 := cell_of_heap (o := 1) hA.ops rfl
        have b0 := cell_of_heap (o := 0) hA.box rfl
        have b1 := cell_of_heap (o := 1) hA.box rfl
        have b2 := cell_of_heap (o := 2) hA.box rfl
        have HA := Lib.hid hA
        have PK := Lib.hid (push_keeps (o := o) SC.out true _ _ rfl rfl OK.out)
        simp only [Bool.false_eq_true, if_false, if_true] at PK
        have HSW : Hid (∀ W, Below wr.heap.size wr W → (fun X : World => X.cell? ⟨w1.heap.size, 0, none⟩ = some (.slice y1 ns.length y2) ∧ X.cell? ⟨w1.heap.size, 1, none⟩ = some (.int .i64 (l : Nat)) ∧ X.cell? ⟨w1.heap.size, 2, none⟩ = some (.slice x1 NE x2)) W) := fun W hb => ⟨cell_of_heap (o := 0) (heap_later HA.out.box hb) rfl, cell_of_heap (o := 1) (heap_later HA.out.box hb) rfl, cell_of_heap (o := 2) (heap_later HA.out.box hb) rfl⟩
        clear hA hj b0 b1 b2
        go_wp2_with fail
        clear p0
        refine wp_region_T (fun X : World => X.cell? ⟨w1.heap.size, 0, none⟩ = some (.slice y1 ns.length y2) ∧ X.cell? ⟨w1.heap.size, 1, none⟩ = some (.int .i64 (l : Nat)) ∧ X.cell? ⟨w1.heap.size, 2, none⟩ = some (.slice x1 NE x2)) [6, 7, 8] [] run_mixed ?_
        simp only [List.size_toArray, List.length_cons, List.length_nil]
        have hbd : Below wr.heap.size wr wr.drew := (Below.refl _ wr).drew
        have H0 := Lib.hid hbd
        generalize wr.drew = wk at *
        have HS := HSW.out _ hbd
        clear hbd
        refine wpT_takeG (i := 0) (v := ?vta0) rfl (by kernel_rfl) (fun _ _ _ h => h) rfl ?yta0 ?rta0
        case yta0 => ((intro wz; go_simp); try with_reducible rfl)
        try simp only [Act.put, List.setIfInBounds_toArray, List.set_cons_zero, List.set_cons_succ]
        refine wpT_loadG (i := 1) (v := ?vta1) rfl (by kernel_rfl) (fun _ _ _ h => h) rfl ?yta1 HS ?rta1
        case yta1 => ((intro wz hSw; (try dsimp only at hSw); go_split_ands; go_simp); try with_reducible rfl)
        try simp only [Act.put, List.setIfInBounds_toArray, List.set_cons_zero, List.set_cons_succ]
        refine wpT_loadG (i := 2) (v := ?vta2) rfl (by kernel_rfl) (fun _ _ _ h => h) rfl ?yta2 HS ?rta2
        case yta2 => ((intro wz hSw; (try dsimp only at hSw); go_split_ands; go_simp); try with_reducible rfl)
        try simp only [Act.put, List.setIfInBounds_toArray, List.set_cons_zero, List.set_cons_succ]
        refine wpT_takeG (i := 3) (v := ?vta3) rfl (by kernel_rfl) (fun _ _ _ h => h) rfl ?yta3 ?rta3
        case yta3 => ((intro wz; go_simp); try with_reducible rfl)
        try simp only [Act.put, List.setIfInBounds_toArray, List.set_cons_zero, List.set_cons_succ]
        refine wpT_takeG (i := 4) (v := ?vta4) rfl (by kernel_rfl) (fun _ _ _ h => h) rfl ?yta4 ?rta4
        case yta4 => ((intro wz; go_simp); try with_reducible rfl)
        try simp only [Act.put, List.setIfInBounds_toArray, List.set_cons_zero, List.set_cons_succ]
        refine wpT_takeG (i := 5) (v := ?vta5) rfl (by kernel_rfl) (fun _ _ _ h => h) rfl ?yta5 ?rta5
        case yta5 => ((intro wz; go_simp); try with_reducible rfl)
        try simp only [Act.put, List.setIfInBounds_toArray, List.set_cons_zero, List.set_cons_succ]
        refine wpT_runG (i := 6) (by kernel_rfl) rfl rfl ?_
        go_simp
        have hb1 := below1 wk (.cells #[.int .i64 13, .int .i64 0, .int .i64 (o : Nat), .int .i64 0, .int .i64 0, .int .i64 0, .int .i64 0, .string ⟨#[]⟩] 32)
        have SI : Scr (wk.alloc (.cells #[.int .i64 13, .int .i64 0, .int .i64 (o : Nat), .int .i64 0, .int .i64 0, .int .i64 0, .int .i64 0, .string ⟨#[]⟩] 32)) (.slice (some ⟨wk.heap.size, 0, none⟩) 1 1) [cLs 13 o] := scr_lit wk [cLs 13 o] 32 wk.heap.size 1 rfl rfl (by simp [cLs]; exact vl_zero_ok)
        have H1 := Lib.hid (H0.out.trans (hb1.mono H0.out.size))
        generalize hwa : wk.alloc (.cells #[.int .i64 13, .int .i64 0, .int .i64 (o : Nat), .int .i64 0, .int .i64 0, .int .i64 0, .int .i64 0, .string ⟨#[]⟩] 32) = wa at *
        refine ⟨cond_keep (by decide) (HSW.out _ H1.out), ?_⟩
        refine wpT_runG (i := 7) (by kernel_rfl) rfl rfl ?_
        go_simp
        refine (with_c (l := l) (HA.out.scr.later H1.out) SI ⟨_, _, _, rfl⟩ (by simp; omega)).mono ?_
        rintro r wb ⟨vb, rfl, sb, hbb⟩
        have H2 := Lib.hid (H1.out.trans (hbb.mono H1.out.size))
        refine ⟨cond_keep (by decide) (HSW.out _ H2.out), ?_⟩
        refine wpT_runG (i := 8) (by kernel_rfl) rfl rfl ?_
        go_simp
        refine (all_c (HA.out.scr.later H2.out) sb PK.out.1 (fun k hk => by rw [runFrom_append]; exact run_isL_mono _ (mem_lists k hk)) (by decide) (by omega) (by simp; omega)).mono ?_
        rintro r wf ⟨vy, YS, rfl, hY⟩
        have H3 := Lib.hid (H2.out.trans (hY.below.mono H2.out.size))
        refine ⟨cond_keep (by decide) (HSW.out _ H3.out), ?_⟩
        have RY := Lib.hid (RowOf.of hY)
        have A3 := Lib.hid (HA.out.later H3.out)
        clear HS hb1 SI hwa sb hbb hY
        refine wpT_takeG (i := 9) (v := ?vtb9) rfl (by kernel_rfl) (fun _ _ _ h => h) rfl ?ytb9 ?rtb9
        case ytb9 => ((intro wz; go_simp); try with_reducible rfl)
        try simp only [Act.put, List.setIfInBounds_toArray, List.set_cons_zero, List.set_cons_succ]
        refine wpT_takeG (i := 10) (v := ?vtb10) rfl (by kernel_rfl) (fun _ _ _ h => h) rfl ?ytb10 ?rtb10
        case ytb10 => ((intro wz; go_simp); try with_reducible rfl)
        try simp only [Act.put, List.setIfInBounds_toArray, List.set_cons_zero, List.set_cons_succ]
        refine wpT_takeG (i := 11) (v := ?vtb11) rfl (by kernel_rfl) (fun _ _ _ h => h) rfl ?ytb11 ?rtb11
        case ytb11 => ((intro wz; go_simp); try with_reducible rfl)
        try simp only [Act.put, List.setIfInBounds_toArray, List.set_cons_zero, List.set_cons_succ]
        refine wpT_takeG (i := 12) (v := ?vtb12) rfl (by kernel_rfl) (fun _ _ _ h => h) rfl ?ytb12 ?rtb12
        case ytb12 => ((intro wz; go_simp); try with_reducible rfl)
        try simp only [Act.put, List.setIfInBounds_toArray, List.set_cons_zero, List.set_cons_succ]
        refine wpT_takeG (i := 13) (v := ?vtb13) rfl (by kernel_rfl) (fun _ _ _ h => h) rfl ?ytb13 ?rtb13
        case ytb13 => ((intro wz; go_simp); try with_reducible rfl)
        try simp only [Act.put, List.setIfInBounds_toArray, List.set_cons_zero, List.set_cons_succ]
        refine wpT_done (by kernel_rfl) ?_ _
        have b0 := cell_of_heap (o := 0) A3.out.box rfl
        have LS := Lib.hid (lists_c A3.out.scr (by omega))
        go_wp2_with fail
        refine LS.out.mono ?_
        rintro r wg ⟨vlq, rfl, rlq, hbg⟩
        have A4 := Lib.hid (A3.out.later hbg)
        have RY4 := Lib.hid (RY.out.later hbg)
        have NQ : Hid (Nats wg vlq (listsOf ns)) := Nats.of_own rlq
        obtain ⟨q1, q2, rfl⟩ := own_len rlq
        clear hbg rlq LS b0
        have hll2 : (listsOf ns).length ≤ ns.length := listsAt_length ns 0
        go_wp2_with fail
        go_loopg [89] (listsOf ns).length (fun n k wr => ∃ t, t + n = (listsOf ns).length ∧ k = .int .i64 t ∧ Below wg.heap.size wg wr)
        case atStart => exact ⟨0, by omega, rfl, Below.refl _ _⟩
        case round =>
          obtain ⟨t, ht, rfl, hB⟩ := hrel
          by_cases hk0 : gk = 0
          · subst hk0
            obtain rfl : t = (listsOf ns).length := by omega
            have A5 := Lib.hid (A4.out.later hB)
            clear hB ht
            go_wp2
            go_roundg 0
            case measure => omega
            case rel => exact ⟨2, rfl, by go_num, A5.out⟩
          · have htl : t < (listsOf ns).length := by omega
            obtain ⟨lk, hlk⟩ : ∃ x, (listsOf ns)[t]? = some x := ⟨_, List.getElem?_eq_getElem htl⟩
            obtain ⟨x, hx⟩ : ∃ x, XS[t]? = some x := ⟨_, List.getElem?_eq_getElem (by rw [A4.out.row.len]; exact htl)⟩
            obtain ⟨y, hy⟩ : ∃ y, YS[t]? = some y := ⟨_, List.getElem?_eq_getElem (by rw [RY4.out.len]; exact htl)⟩
            have hsx := (A4.out.row.later hB).seen t lk x hlk hx
            have hsy := (RY4.out.later hB).seen t lk y hlk hy
            obtain ⟨BXo, hxo⟩ := (A4.out.row.later hB).own
            obtain ⟨BYo, hyo⟩ := (RY4.out.later hB).own
            obtain ⟨lb, lo, lp, hlv, hlc⟩ := (NQ.out.later hB).cells (by intro q; rw [q] at hlk; simp at hlk)
            simp only [Value.slice.injEq] at hlv
            obtain ⟨rfl, hzz, rfl⟩ := hlv
            clear hzz
            have el := hlc t lk hlk
            obtain ⟨xb, xc, rfl⟩ := own_form hxo (by omega)
            obtain ⟨yb, yc, rfl⟩ := own_form hyo (by omega)
            have hxe : ∀ i z, x.cells[i]? = some z → wr.cell? ⟨xb, t * 4 + i, none⟩ = some z := fun i z hz => own_elem SV.cells_length hxo (by rw [A4.out.row.len]) hx hz
            have hye : ∀ i z, y.cells[i]? = some z → wr.cell? ⟨yb, t * 4 + i, none⟩ = some z := fun i z hz => own_elem SV.cells_length hyo (by rw [RY4.out.len]) hy hz
            obtain ⟨xe, xk, xv, xn⟩ := x
            obtain ⟨ye, yk, yv, yn⟩ := y
            have hxn := hsx.n
            have hyn := hsy.n
            simp only at hxn hyn
            obtain ⟨ea, ec, rfl⟩ : ∃ a c, xe = .slice a xn c := by obtain ⟨a, c, q⟩ := hsx.reads.elems.form; rw [names_length, ← hxn] at q; exact ⟨a, c, q⟩
            obtain ⟨ba, bc, rfl⟩ : ∃ a c, xk = .slice a xn c := by obtain ⟨a, c, q⟩ := hsx.reads.back.form; rw [List.length_reverse, names_length, ← hxn] at q; exact ⟨a, c, q⟩
            obtain ⟨da, dc, rfl⟩ : ∃ a c, xv = .slice a xn c := by obtain ⟨a, c, q, _⟩ := hsx.reads.vals; rw [List.length_map, ← hxn] at q; exact ⟨a, c, q⟩
            obtain ⟨ea', ec', rfl⟩ : ∃ a c, ye = .slice a yn c := by obtain ⟨a, c, q⟩ := hsy.reads.elems.form; rw [names_length, ← hyn] at q; exact ⟨a, c, q⟩
            obtain ⟨ba', bc', rfl⟩ : ∃ a c, yk = .slice a yn c := by obtain ⟨a, c, q⟩ := hsy.reads.back.form; rw [List.length_reverse, names_length, ← hyn] at q; exact ⟨a, c, q⟩
            obtain ⟨da', dc', rfl⟩ : ∃ a c, yv = .slice a yn c := by obtain ⟨a, c, q, _⟩ := hsy.reads.vals; rw [List.length_map, ← hyn] at q; exact ⟨a, c, q⟩
            obtain ⟨NX, rfl⟩ : ∃ N, N = xn := ⟨_, rfl⟩
            obtain ⟨NY, rfl⟩ : ∃ N, N = yn := ⟨_, rfl⟩
            have xbl : xb < wr.heap.size := World.block_lt_of_cell? wr _ (hxe 0 _ rfl)
            have ybl : yb < wr.heap.size := World.block_lt_of_cell? wr _ (hye 0 _ rfl)
            have HSW2 : Hid (∀ W, Below wr.heap.size wr W → (fun X : World => X.cell? ⟨xb, t * 4, none⟩ = some (.slice ea NX ec) ∧ X.cell? ⟨xb, t * 4 + 1, none⟩ = some (.slice ba NX bc) ∧ X.cell? ⟨xb, t * 4 + 2, none⟩ = some (.slice da NX dc) ∧ X.cell? ⟨xb, t * 4 + 3, none⟩ = some (.int .i64 (NX : Nat)) ∧ X.cell? ⟨yb, t * 4, none⟩ = some (.slice ea' NY ec') ∧ X.cell? ⟨yb, t * 4 + 1, none⟩ = some (.slice ba' NY bc') ∧ X.cell? ⟨yb, t * 4 + 2, none⟩ = some (.slice da' NY dc') ∧ X.cell? ⟨yb, t * 4 + 3, none⟩ = some (.int .i64 (NY : Nat))) W) := fun W hb => ⟨(hb.cell (p := ⟨xb, t * 4, none⟩) xbl).trans (hxe 0 _ rfl), (hb.cell (p := ⟨xb, t * 4 + 1, none⟩) xbl).trans (hxe 1 _ rfl), (hb.cell (p := ⟨xb, t * 4 + 2, none⟩) xbl).trans (hxe 2 _ rfl), (hb.cell (p := ⟨xb, t * 4 + 3, none⟩) xbl).trans (hxe 3 _ rfl), (hb.cell (p := ⟨yb, t * 4, none⟩) ybl).trans (hye 0 _ rfl), (hb.cell (p := ⟨yb, t * 4 + 1, none⟩) ybl).trans (hye 1 _ rfl), (hb.cell (p := ⟨yb, t * 4 + 2, none⟩) ybl).trans (hye 2 _ rfl), (hb.cell (p := ⟨yb, t * 4 + 3, none⟩) ybl).trans (hye 3 _ rfl)⟩
            have HSX := Lib.hid hsx; have HSY := Lib.hid hsy; have HB := Lib.hid hB; have HT := Lib.hid ht; have HLK := Lib.hid hlk
            have HXN := Lib.hid hxn; have HYN := Lib.hid hyn
            clear hsx hsy hB ht hlk hx hy hxo hyo hlc hxe hye hxn hyn xbl ybl
            go_wp2_with fail
            go_cut [19, 20] (fun p q wz => ∃ a b : Nat, p = .pointer (some ⟨a, 0, none⟩) ∧ q = .pointer (some ⟨b, 0, none⟩) ∧ wz.heap[a]? = some (.cells #[.slice ea NX ec, .slice ba NX bc, .slice da NX dc, .int .i64 (NX : Nat)] 54 (0, 0)) ∧ wz.heap[b]? = some (.cells #[.slice ea' NY ec', .slice ba' NY bc', .slice da' NY dc', .int .i64 (NY : Nat)] 54 (0, 0)) ∧ Below wr.heap.size wr wz)
            case first =>
              refine wp_region_T (fun X : World => X.cell? ⟨xb, t * 4, none⟩ = some (.slice ea NX ec) ∧ X.cell? ⟨xb, t * 4 + 1, none⟩ = some (.slice ba NX bc) ∧ X.cell? ⟨xb, t * 4 + 2, none⟩ = some (.slice da NX dc) ∧ X.cell? ⟨xb, t * 4 + 3, none⟩ = some (.int .i64 (NX : Nat)) ∧ X.cell? ⟨yb, t * 4, none⟩ = some (.slice ea' NY ec') ∧ X.cell? ⟨yb, t * 4 + 1, none⟩ = some (.slice ba' NY bc') ∧ X.cell? ⟨yb, t * 4 + 2, none⟩ = some (.slice da' NY dc') ∧ X.cell? ⟨yb, t * 4 + 3, none⟩ = some (.int .i64 (NY : Nat))) [8, 9, 10, 11] [] run_mixed ?_
              simp only [List.size_toArray, List.length_cons, List.length_nil]
              have hbd : Below wr.heap.size wr wr.drew := (Below.refl _ wr).drew
              have K0 := Lib.hid hbd
              generalize wr.drew = wk at *
              have HS := HSW2.out _ hbd
              clear hbd
              refine wpT_takeG (i := 0) (v := ?vtc0) rfl (by kernel_rfl) (fun _ _ _ h => h) rfl ?ytc0 ?rtc0
              case ytc0 => ((intro wz; go_simp); try with_reducible rfl)
              try simp only [Act.put, List.setIfInBounds_toArray, List.set_cons_zero, List.set_cons_succ]
              refine wpT_takeG (i := 1) (v := ?vtc1) rfl (by kernel_rfl) (fun _ _ _ h => h) rfl ?ytc1 ?rtc1
              case ytc1 => ((intro wz; go_simp); try with_reducible rfl)
              try simp only [Act.put, List.setIfInBounds_toArray, List.set_cons_zero, List.set_cons_succ]
              refine wpT_takeG (i := 2) (v := ?vtc2) rfl (by kernel_rfl) (fun _ _ _ h => h) rfl ?ytc2 ?rtc2
              case ytc2 => ((intro wz; go_simp); try with_reducible rfl)
              try simp only [Act.put, List.setIfInBounds_toArray, List.set_cons_zero, List.set_cons_succ]
              refine wpT_loadG (i := 3) (v := ?vtc3) rfl (by kernel_rfl) (fun _ _ _ h => h) rfl ?ytc3 HS ?rtc3
              case ytc3 => ((intro wz hSw; (try dsimp only at hSw); go_split_ands; go_simp); try with_reducible rfl)
              try simp only [Act.put, List.setIfInBounds_toArray, List.set_cons_zero, List.set_cons_succ]
              refine wpT_takeG (i := 4) (v := ?vtc4) rfl (by kernel_rfl) (fun _ _ _ h => h) rfl ?ytc4 ?rtc4
              case ytc4 => ((intro wz; go_simp); try with_reducible rfl)
              try simp only [Act.put, List.setIfInBounds_toArray, List.set_cons_zero, List.set_cons_succ]
              refine wpT_takeG (i := 5) (v := ?vtc5) rfl (by kernel_rfl) (fun _ _ _ h => h) rfl ?ytc5 ?rtc5
              case ytc5 => ((intro wz; go_simp); try with_reducible rfl)
              try simp only [Act.put, List.setIfInBounds_toArray, List.set_cons_zero, List.set_cons_succ]
              refine wpT_takeG (i := 6) (v := ?vtc6) rfl (by kernel_rfl) (fun _ _ _ h => h) rfl ?ytc6 ?rtc6
              case ytc6 => ((intro wz; go_simp); try with_reducible rfl)
              try simp only [Act.put, List.setIfInBounds_toArray, List.set_cons_zero, List.set_cons_succ]
              refine wpT_loadG (i := 7) (v := ?vtc7) rfl (by kernel_rfl) (fun _ _ _ h => h) rfl ?ytc7 HS ?rtc7
              case ytc7 => ((intro wz hSw; (try dsimp only at hSw); go_split_ands; go_simp); try with_reducible rfl)
              try simp only [Act.put, List.setIfInBounds_toArray, List.set_cons_zero, List.set_cons_succ]
              refine wpT_two (i := 8) (j := 9) (by kernel_rfl) rfl rfl rfl rfl ?_ ?_
              · go_simp
                refine ⟨cond_keep (by decide) (HSW2.out _ (K0.out.trans ((below1 wk _).mono K0.out.size))), ?_⟩
                refine wpT_runG (i := 9) (by kernel_rfl) rfl rfl ?_
                go_simp
                refine ⟨cond_keep (by decide) (HSW2.out _ (K0.out.trans ((below2 wk _ _).mono K0.out.size))), ?_⟩
                refine wpT_runG (i := 10) (by kernel_rfl) rfl rfl ?_
                go_simp
                refine ⟨cond_keep (by decide) (HSW2.out _ (K0.out.trans ((below2 wk _ _).mono K0.out.size))), ?_⟩
                refine wpT_runG (i := 11) (by kernel_rfl) rfl rfl ?_
                go_simp
                refine ⟨cond_keep (by decide) (HSW2.out _ (K0.out.trans ((below2 wk _ _).mono K0.out.size))), ?_⟩
                refine wpT_done (by kernel_rfl) ?_ _
                clear HS
                go_wp2
                go_meet
                case rel => exact ⟨wk.heap.size, wk.heap.size + 1, rfl, rfl, heap_more (heap_alloc_new wk _) _, (by have := heap_alloc_new (wk.alloc (.cells #[.slice ea NX ec, .slice ba NX bc, .slice da NX dc, .int .i64 (NX : Nat)] 54)) (.cells #[.slice ea' NY ec', .slice ba' NY bc', .slice da' NY dc', .int .i64 (NY : Nat)] 54); simpa using this), K0.out.trans ((below2 wk _ _).mono K0.out.size)⟩
              · go_simp
                refine ⟨cond_keep (by decide) (HSW2.out _ (K0.out.trans ((below1 wk _).mono K0.out.size))), ?_⟩
                refine wpT_runG (i := 8) (by kernel_rfl) rfl rfl ?_
                go_simp
                refine ⟨cond_keep (by decide) (HSW2.out _ (K0.out.trans ((below2 wk _ _).mono K0.out.size))), ?_⟩
                refine wpT_runG (i := 10) (by kernel_rfl) rfl rfl ?_
                go_simp
                refine ⟨cond_keep (by decide) (HSW2.out _ (K0.out.trans ((below2 wk _ _).mono K0.out.size))), ?_⟩
                refine wpT_runG (i := 11) (by kernel_rfl) rfl rfl ?_
                go_simp
                refine ⟨cond_keep (by decide) (HSW2.out _ (K0.out.trans ((below2 wk _ _).mono K0.out.size))), ?_⟩
                refine wpT_done (by kernel_rfl) ?_ _
                clear HS
                go_wp2
                go_meet
                case rel => exact ⟨wk.heap.size + 1, wk.heap.size, rfl, rfl, (by have := heap_alloc_new (wk.alloc (.cells #[.slice ea' NY ec', .slice ba' NY bc', .slice da' NY dc', .int .i64 (NY : Nat)] 54)) (.cells #[.slice ea NX ec, .slice ba NX bc, .slice da NX dc, .int .i64 (NX : Nat)] 54); simpa using this), heap_more (heap_alloc_new wk _) _, K0.out.trans ((below2 wk _ _).mono K0.out.size)⟩
            case rest =>
              obtain ⟨pa, pb, rfl, rfl, ga, gb, hcb⟩ := hcut
              have A5 := Lib.hid ((A4.out.later HB.out).later hcb)
              have b1 := cell_of_heap (o := 1) A5.out.box rfl
              have B5 := Lib.hid (HB.out.trans (hcb.mono HB.out.size))
              by_cases hne : lk = l
              · obtain rfl : l = lk := hne.symm
                have qn : ((l : Int) != (l : Int)) = false := by simp
                obtain ⟨F, hF, hFi, hFe⟩ := PK.out.2.2.2
                have rx := (HSX.out.later hcb).reads.elems
                have ry := (HSY.out.later hcb).reads.elems
                simp only [List.map_cons, List.map_nil] at ry
                rw [hFe] at ry
                have roomy : NY ≤ ec' := HSY.out.room _ _ _ rfl
                have roomx : NX ≤ ec := HSX.out.room _ _ _ rfl
                have hNX : NX = ((runFrom Md.init ns).names ((runFrom Md.init ns).seq l)).length := by rw [names_length]; exact HXN.out
                have hNY : NY = NX + ((runFrom Md.init ns).seq o).length := by
                  have q := HYN.out
                  simp only [List.map_cons, List.map_nil] at q
                  rw [← names_length (m := runFrom Md.init (ns ++ [onL l (cLs 13 o)])), hFe] at q
                  simp only [List.length_append] at q
                  omega
                have LI := Lib.hid (listed_c (l := o) A5.out.scr SC.out.ok HOL.out (by omega))
                have b0 := cell_of_heap (o := 0) A5.out.box rfl
                have x0 := cell_of_heap (o := 0) ga rfl
                have x1' := cell_of_heap (o := 1) ga rfl
                have x2' := cell_of_heap (o := 2) ga rfl
                have x3' := cell_of_heap (o := 3) ga rfl
                have y0 := cell_of_heap (o := 0) gb rfl
                have y1' := cell_of_heap (o := 1) gb rfl
                have y2' := cell_of_heap (o := 2) gb rfl
                have y3' := cell_of_heap (o := 3) gb rfl
                have RX := Lib.hid rx; have RYE := Lib.hid ry; have GA := Lib.hid ga; have GB := Lib.hid gb; have HNX := Lib.hid hNX; have HNY := Lib.hid hNY; have HF := Lib.hid hF; have HFI := Lib.hid hFi; have HFE := Lib.hid hFe
                clear hcb hne ga gb hFe hF hFi rx ry hNX hNY
                go_wp2_with fail
                refine LI.out.mono ?_
                rintro r wz ⟨v2, v3, rfl, _, ro3, hbz⟩
                obtain ⟨z1, z2, rfl⟩ := own_len ro3
                have hbl : ((runFrom Md.init ns).seq l).length ≤ 500 := by
                  have := SC.out.wf.seq_le l
                  have := run_cnt_le _ SC.out.ok (by simp [Md.init])
                  omega
                have hbo : ((runFrom Md.init ns).seq o).length ≤ 500 := by
                  have := SC.out.wf.seq_le o
                  have := run_cnt_le _ SC.out.ok (by simp [Md.init])
                  omega
                have hNX5 : NX ≤ 500 := by have := HNX.out; rw [names_length] at this; omega
                have x0 := cell_of_heap (o := 0) (heap_later GA.out hbz) rfl
                have y0 := cell_of_heap (o := 0) (heap_later GB.out hbz) rfl
                have nx := Lib.hid (RX.out.later hbz)
                have ny := Lib.hid (RYE.out.later hbz)
                have A6 := Lib.hid (A5.out.later hbz)
                have B6 := Lib.hid (B5.out.trans (hbz.mono B5.out.size))
                have HY := HNY.out
                clear LI ro3 hbz hbl
                generalize ((runFrom Md.init ns).seq o).length = NO at *
                have qq : ((NY : Int) != (NX : Int) + (NO : Int)) = false := by simp; omega
                have HY2 := Lib.hid HY
                have yle : NX ≤ NY := by omega
                have noy : NO ≤ NY := by omega
                have hNY5 : NY ≤ 1000 := by omega
                clear HY
                go_wp2_with fail
                have FB : Hid (∀ x ∈ F, ns.length < x ∧ x ≤ 4611686018427387904) := fun x hx => ⟨HFI.out x hx, keeps_bound PK.out.1 (by rw [List.length_append]; simp; omega) HFE.out (.inl hx)⟩
                go_quiet (fail)
                generalize hfr : (if ec' = NX then ea' else Option.map (fun x => x.add NX) ea') = fa
                have HFR := Lib.hid hfr
                clear hfr
                go_wp2_with fail
                go_quiet (fail)
                generalize hfr2 : (if ec' = NO then ea' else Option.map (fun x => x.add NO) ea') = fb
                have HFR2 := Lib.hid hfr2
                clear hfr2
                have EQ : Hid (∀ d, Calls Try.prog 28 #[.slice fb (NY - NO) (ec' - NO), .slice ea NX ec] (wz.drewN d) fun r w' => r = .returned (.bool true) ∧ ∃ d', w' = (wz.drewN d).drewN d') := fun d => equalInt_c (Nats.drewN (nats_rest ny.out HF.out.symm (by have := HY2.out; have := HNX.out; omega) (by omega) HFR2.out _) d) (Nats.drewN nx.out d) (by have := HNX.out; omega)
                have CF : Hid (∀ d, Calls Try.prog 34 #[.slice ea' NO ec', .func (.func 35) #[] #[.pointer (some ⟨w1.heap.size, 0, none⟩)]] (wz.drewN d) fun r w' => r = .returned (.bool false) ∧ w' = wz.drewN d) := fun d => containsFunc_c (L := F) (Nats.drewN (nats_take ny.out HF.out.symm _) d) (cell_of_heap (o := 0) A6.out.box rfl) FB.out (by omega) (by have := HF.out; omega)
                go_wp2_with fail
                refine (EQ.out _).mono ?_
                rintro r wq ⟨rfl, d', rfl⟩
                go_wp2_with fail
                refine (CF.out _).mono ?_
                rintro r wq ⟨rfl, rfl⟩
                go_wp2
                go_roundg (gk - 1)
                case measure => omega
                case rel => exact ⟨t + 1, by have := HT.out; omega, by go_num, Below.drewN' B6.out _⟩
              · have qn : ((lk : Int) != (l : Int)) = true := by simp; omega
                have LK := PK.out.2.2.1 lk hne
                have rx := (HSX.out.later hcb).reads
                have ry := (HSY.out.later hcb).reads
                simp only [List.map_cons, List.map_nil] at ry
                rw [LK.names, LK.vals] at ry
                have hNN : NX = NY := by have q := HYN.out; simp only [List.map_cons, List.map_nil] at q; rw [HXN.out, q, LK.seq]
                have hb5 : ((runFrom Md.init ns).seq lk).length ≤ 500 := by
                  have := SC.out.wf.seq_le lk
                  have := run_cnt_le _ SC.out.ok (by simp [Md.init])
                  omega
                have SM := Lib.hid (same_c rx ry hNN (by rw [names_length]; omega) (by rw [List.length_map]; omega))
                have x0 := cell_of_heap (o := 0) ga rfl
                have x1' := cell_of_heap (o := 1) ga rfl
                have x2' := cell_of_heap (o := 2) ga rfl
                have x3' := cell_of_heap (o := 3) ga rfl
                have y0 := cell_of_heap (o := 0) gb rfl
                have y1' := cell_of_heap (o := 1) gb rfl
                have y2' := cell_of_heap (o := 2) gb rfl
                have y3' := cell_of_heap (o := 3) gb rfl
                simp only [SV.agg] at SM
                clear LK rx ry hNN hb5 hne ga gb hcb
                go_wp2_with fail
                refine SM.out.mono ?_
                rintro r wz ⟨rfl, hbz⟩
                have B6 := Lib.hid (B5.out.trans (hbz.mono B5.out.size))
                clear hbz SM
                go_wp2
                go_roundg (gk - 1)
                case measure => omega
                case rel => exact ⟨t + 1, by have := HT.out; omega, by go_num, B6.out⟩
  · simp only [scene0]
    have LS := Lib.hid (fun o => lists_c ((S.out.later B1.out).later (below1 w1 o)) (by omega))
    have hll : (listsOf cs).length ≤ cs.length := listsAt_length cs 0
    go_wp2_with fail
    refine (LS.out _).mono ?_
    rintro r w2 ⟨vl, rfl, rl, hb2⟩
    have B2 := Lib.hid (B1.out.trans (((below1 w1 _).trans (hb2.mono (by simp))).mono B1.out.size))
    have NT : Nats w2 vl (listsOf cs) := Nats.of_own rl
    clear hb2 rl LS
    by_cases hL : listsOf cs = []
    · have CH := Lib.hid (chosen_nil NT hL m)
      clear NT hL
      go_wp2_with fail
      refine CH.out.mono ?_
      rintro r w3 ⟨rfl, rfl⟩
      clear CH
      go_wp2
      go_ret
      exact ⟨rfl, B2.out⟩
    · have CH := Lib.hid (chosen_c NT hL (by omega) m)
      clear NT hL
      go_wp2_with fail
      refine CH.out.mono ?_
      rintro r w3 ⟨o, ho, rfl, rfl⟩
      clear CH
      go_wp2
      go_ret
      exact ⟨rfl, B2.out⟩
end Bead
end Go.Proofs.Ytidnmanljdadaaa
