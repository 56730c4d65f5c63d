/- slices.Clone of scripts, laws.agree; FnZeroIsNew returns true. -/
import Derived.Test.YtdkahhocapepeaaLaws1
import Derived.WalkSpells
set_option linter.all false
namespace Go.Proofs.Ytdkahhocapepeaa
open Go.RowKit
namespace Bead
set_option maxRecDepth 100000

theorem Try.infoICall : (Try.prog.info? 36).map (fun i => (i.zero, i.size, i.bytes)) = some (some (.agg #[.int .i64 0, .int .i64 0, .int .i64 0, .int .i64 0, .int .i64 0, .int .i64 0, .int .i64 0, .string ⟨#[]⟩]), 8, 72) := by kernel_rfl

theorem cells_one (cs : List Cl) : ∀ u ∈ cs.flatMap Cl.cells, u.oneCell' = true := by
  intro u hu
  simp only [List.mem_flatMap, Cl.cells, List.mem_cons, List.not_mem_nil, or_false] at hu
  obtain ⟨c, _, h⟩ := hu
  rcases h with rfl | rfl | rfl | rfl | rfl | rfl | rfl | rfl <;> rfl

theorem eql_nil_calls (W : World) (a : Option Addr) (n c : Nat) : (binOp .eql 22 (.slice a n c) (.slice none 0 0)).run Try.prog W = .ok (.bool a.isNone) W := by
  simp only [binOp]
  simp [Op.equal, Op.maxDepth, Lib.run_equalIn_slice_nil W 9999 22 36 a n c 0 0 Try.underlying22]

set_option maxHeartbeats 1000000 in
theorem clone_c {w : World} {v : Value} {cs : List Cl} (hs : Sl w v cs.length (cs.flatMap Cl.cells)) (hf : Value.fair v) (hlen : cs.length ≤ 1099511627776) :
    Calls Try.prog 18 #[v] w fun r w' => ∃ v', r = .returned v' ∧ w'.ownsRow w.heap.size 36 8 v' cs.length (cs.flatMap Cl.cells) ∧ Below w.heap.size w w' := by
  have HS := Lib.hid hs
  obtain ⟨a, cap, rfl, hc⟩ := hs
  cases a with
  | none =>
    have hcs : cs = [] := by
      rcases cs with _ | ⟨c, r⟩
      · rfl
      · obtain ⟨b, off, q, _⟩ := hc (flat_ne _ 8 Cl.cells_length (by decide) (by simp))
        simp at q
    have FIN : Hid (w.ownsRow w.heap.size 36 8 (.slice none 0 0) cs.length (cs.flatMap Cl.cells)) := by rw [hcs]; exact World.ownsRow_nil _ _ _ _
    have hcap := hf _ _ rfl
    subst hcap
    have hl0 : cs.length = 0 := by rw [hcs]; rfl
    rw [hl0]
    rw [hl0] at FIN
    clear hc hf HS hcs hl0
    have q1 := fun W => eql_nil_calls W none 0 0
    simp only [Option.isNone_none] at q1
    go_enter Try.func18, Try.ntmps18
    go_wp2
    go_ret
    exact ⟨_, rfl, FIN.out, Below.refl _ _⟩
  | some ad =>
    have HS2 : Hid (∀ o, Sl (w.alloc o) (.slice (some ad) cs.length cap) cs.length (cs.flatMap Cl.cells)) := fun o => HS.out.later (below1 w o)
    have O0 : Hid ((w.alloc (.cells #[] 36)).ownsRow w.heap.size 36 8 (.slice (some ⟨w.heap.size, 0, none⟩) 0 0) 0 []) := by
      have := World.ownsRow_lit (base := w.heap.size) (e := 36) (size := 8) w #[] 0 (Nat.le_refl _) (by unfold maxLen; omega) rfl
      exact this
    clear hc hf HS
    have q1 := fun W => eql_nil_calls W (some ad) cs.length cap
    simp only [Option.isNone_some] at q1
    go_enter Try.func18, Try.ntmps18
    go_wp2_with (at_builtin; refine wpList_app2 rfl (.tmp 5) (.tmp 6) 22 rfl w.heap.size 36 _ 8 72 Try.underlying22 Try.infoICall rfl (by decide) _ 0 [] rfl O0.out (.slice (some ad) cs.length cap) cs.length _ rfl (HS2.out _) (flat_length _ 8 Cl.cells_length _) (cells_one cs) (.inr (.inl (by simp [Value.ownBlock]))) (by omega) (by decide) (by simp) ?_; intro v' w2 hown hg hn; rw [Nat.zero_add, List.nil_append] at hown; have RW := Lib.hid hown; have BL := Lib.hid (below_grown (below1 w _) O0.out (Nat.le_refl _) hg); clear hown hg hn)
    go_ret
    exact ⟨_, rfl, RW.out, BL.out⟩

set_option maxHeartbeats 1000000 in
theorem agree_c {w : World} {va vb vo : Value} {A : List An} {O : List Bool} (ha : Sl w va A.length (A.flatMap An.cells)) (hb : Sl w vb A.length (A.flatMap An.cells)) (ho : Sl w vo A.length (O.flatMap fun b => [Value.bool b])) (hO : O.length = A.length) (hlen : A.length ≤ 4611686018427387904) :
    Calls Try.prog 15 #[va, vb, vo] w fun r w' => r = .returned (.bool true) ∧ ∃ d, w' = w.drewN d := by
  have HA := Lib.hid ha; have HB := Lib.hid hb; have HO := Lib.hid ho; have LO := Lib.hid hO
  obtain ⟨aa, ca, rfl, _⟩ := ha
  obtain ⟨ab, cb, rfl, _⟩ := hb
  obtain ⟨ao, co, rfl, _⟩ := ho
  clear hO
  go_enter Try.func15, Try.ntmps15
  go_wp2_with fail
  go_loopg [22] A.length (fun n k wr => ∃ j, j + n = A.length ∧ k = .int .i64 j ∧ ∃ d, wr = w.drewN d)
  case atStart => exact ⟨0, by omega, rfl, 0, rfl⟩
  case round =>
    obtain ⟨j, hj, rfl, d, rfl⟩ := hrel
    by_cases hk0 : gk = 0
    · subst hk0
      obtain rfl : j = A.length := by omega
      clear hj
      go_wp2
      go_ret
      exact ⟨rfl, d, rfl⟩
    · have hjl : j < A.length := by omega
      have hjO : j < O.length := by rw [LO.out]; exact hjl
      obtain ⟨x, hget⟩ : ∃ x, A[j]? = some x := ⟨_, List.getElem?_eq_getElem hjl⟩
      obtain ⟨y, hgeto⟩ : ∃ y, O[j]? = some y := ⟨_, List.getElem?_eq_getElem hjO⟩
      have hneA : A ≠ [] := by intro q; subst q; simp at hjl
      have hneO : O ≠ [] := by intro q; subst q; simp at hjO
      obtain ⟨b1, o1, c1, hv1, cell1⟩ := HA.out.elem An.cells_length (by decide) hneA
      obtain ⟨b2, o2, c2, hv2, cell2⟩ := HB.out.elem An.cells_length (by decide) hneA
      have HO' : Sl w (.slice ao A.length co) O.length (O.flatMap fun b => [Value.bool b]) := by rw [LO.out]; exact HO.out
      obtain ⟨b3, o3, c3, hv3, cell3⟩ := HO'.elem (f := fun b => [Value.bool b]) (sz := 1) (fun _ => rfl) (by decide) hneO
      rw [LO.out] at hv3
      simp only [Value.slice.injEq] at hv1 hv2 hv3
      obtain ⟨rfl, hz1, rfl⟩ := hv1
      obtain ⟨rfl, hz2, rfl⟩ := hv2
      obtain ⟨rfl, hz3, rfl⟩ := hv3
      clear hz1 hz2 hz3 HO'
      have e1 : ∀ t y, x.cells[t]? = some y → w.cell? ⟨b1, o1 + j * 5 + t, none⟩ = some y := fun t y hy => by rw [Nat.add_assoc]; exact cell1 j x hget t y hy
      have e2 : ∀ t y, x.cells[t]? = some y → w.cell? ⟨b2, o2 + j * 5 + t, none⟩ = some y := fun t y hy => by rw [Nat.add_assoc]; exact cell2 j x hget t y hy
      have e3 : w.cell? ⟨b3, o3 + j, none⟩ = some (.bool y) := by have := cell3 j y hgeto 0 _ rfl; simpa using this
      have s0 := e1 0 _ rfl; have s1 := e1 1 _ rfl; have s2 := e1 2 _ rfl; have s3 := e1 3 _ rfl; have s4 := e1 4 _ rfl
      have t0 := e2 0 _ rfl; have t1 := e2 1 _ rfl; have t2 := e2 2 _ rfl; have t3 := e2 3 _ rfl; have t4 := e2 4 _ rfl
      simp only [Nat.add_zero] at s0 t0
      have HJ := Lib.hid hj
      clear hj hget hgeto hjO e1 e2 cell1 cell2 cell3 hneA hneO
      cases y
      all_goals
        go_wp2_with fail
        go_quiet (fail)
        go_wp2
        go_roundg (gk - 1)
        case measure => omega
        case rel => exact ⟨j + 1, by have := HJ.out; omega, by go_num, _, rfl⟩

/-- A list made by New becomes a zero value, and the other way round. -/
def swp (c : Cl) : Cl := if c.op = 0 then { c with op := 1 } else if c.op = 1 then { c with op := 0 } else c
theorem step_swp (m : Md) (c : Cl) : m.step (swp c) = m.step c := by
  unfold swp
  split
  · rename_i h; simp [Md.step, Md.look, h]
  · split
    · rename_i h; simp [Md.step, Md.look, h]
    · rfl
theorem perm_swp (most : Nat) (m : Md) (c : Cl) : m.permitted most (swp c) = m.permitted most c := by
  unfold swp
  split
  · rename_i h; simp [Md.permitted, usesList, usesOther, usesElem, usesMark, makes, h]
  · split
    · rename_i h; simp [Md.permitted, usesList, usesOther, usesElem, usesMark, makes, h]
    · rfl
theorem ans_swp (cs : List Cl) : ∀ m, ansFrom m (cs.map swp) = ansFrom m cs := by
  induction cs with
  | nil => intro m; rfl
  | cons c cs ih => intro m; simp only [List.map_cons, ansFrom, step_swp, ih]
theorem ok_swp (most : Nat) (cs : List Cl) : ∀ m, okFrom most m (cs.map swp) = okFrom most m cs := by
  induction cs with
  | nil => intro m; rfl
  | cons c cs ih => intro m; simp only [List.map_cons, okFrom, step_swp, perm_swp, ih]

/-- One cell of one element of a row is replaced. -/
theorem flat_set {α : Type} (f : α → List Value) (sz : Nat) (hf : ∀ x, (f x).length = sz) : ∀ (l : List α) (i j : Nat) (x x' : α) (v : Value), l[i]? = some x → j < sz → f x' = (f x).set j v → (l.flatMap f).set (i * sz + j) v = (l.set i x').flatMap f
  | [], _, _, _, _, _, h, _, _ => by simp at h
  | y :: l, 0, j, x, x', v, h, hj, he => by
    simp at h; subst h
    rw [List.flatMap_cons, Nat.zero_mul, Nat.zero_add, List.set_append, if_pos (by rw [hf]; exact hj), List.set_cons_zero, List.flatMap_cons, he]
  | y :: l, i + 1, j, x, x', v, h, hj, he => by
    simp at h
    rw [List.flatMap_cons, List.set_append, if_neg (by rw [hf, Nat.succ_mul]; omega), hf, show (i + 1) * sz + j - sz = i * sz + j by rw [Nat.succ_mul]; omega, flat_set f sz hf l i j x x' v h hj he, List.set_cons_succ, List.flatMap_cons]
theorem own_set1 {w : World} {B b n cap : Nat} {cs : List Cl} (h : w.ownsRow B 36 8 (.slice (some ⟨b, 0, none⟩) n cap) n (cs.flatMap Cl.cells)) {j t : Nat} {c c' : Cl} {v : Value} (hc : cs[j]? = some c) (ht : t < 8) (he : c'.cells = c.cells.set t v) :
    (w.setCell ⟨b, j * 8 + t, none⟩ v).ownsRow B 36 8 (.slice (some ⟨b, 0, none⟩) n cap) n ((cs.set j c').flatMap Cl.cells) := by
  have := (h.stored (j * 8 + t) v).1
  rw [flat_set Cl.cells 8 Cl.cells_length cs j t c c' v hc ht he] at this
  exact this

/-- The first j calls are changed. -/
def chg (f : Cl → Cl) (cs : List Cl) (j : Nat) : List Cl := (cs.take j).map f ++ cs.drop j
theorem chg_zero (f : Cl → Cl) (cs : List Cl) : chg f cs 0 = cs := by simp [chg]
theorem chg_all (f : Cl → Cl) (cs : List Cl) : chg f cs cs.length = cs.map f := by simp [chg]
theorem chg_len (f : Cl → Cl) (cs : List Cl) (j : Nat) : (chg f cs j).length = cs.length := by simp [chg]; omega
theorem chg_get {f : Cl → Cl} {cs : List Cl} {j : Nat} (h : j < cs.length) : (chg f cs j)[j]? = some cs[j] := by
  unfold chg
  rw [List.getElem?_append_right (by simp; omega)]
  simp [Nat.min_eq_left (Nat.le_of_lt h)]
theorem chg_succ {f : Cl → Cl} {cs : List Cl} {j : Nat} (h : j < cs.length) : chg f cs (j + 1) = (chg f cs j).set j (f cs[j]) := by
  unfold chg
  rw [List.set_append, if_neg (by simp; omega)]
  have : j - ((cs.take j).map f).length = 0 := by simp; omega
  rw [this, List.drop_eq_getElem_cons h, List.set_cons_zero, List.take_succ_eq_append_getElem h, List.map_append]
  simp

structure ZAt (w wr : World) (f : Cl → Cl) (cs : List Cl) (v : Value) (j : Nat) : Prop where
  own : wr.ownsRow w.heap.size 36 8 v cs.length ((chg f cs j).flatMap Cl.cells)
  keeps : Keeps (fun k => v.ownBlock = some k) w wr

set_option maxHeartbeats 2000000 in
theorem zero_c {w : World} {v : Value} {cs : List Cl} (hs : Sl w v cs.length (cs.flatMap Cl.cells)) (hf : Value.fair v) (hv : ∀ c ∈ cs, c.v.ok) (hlen : cs.length ≤ 1099511627776) :
    Calls Try.prog 9 #[v] w fun r w' => r = .returned (.bool true) ∧ Below w.heap.size w w' := by
  have DF := Lib.hid (defined_c hs hlen)
  have HS := Lib.hid hs; have HV := Lib.hid hv; have HF := Lib.hid hf
  clear hs hv hf
  go_enter Try.func9, Try.ntmps9
  go_wp2_with fail
  refine DF.out.mono ?_
  rintro r w1 ⟨hb1, hcase⟩
  have B1 := Lib.hid hb1
  rcases hcase with ⟨hok, a, o, rfl, ra, ro⟩ | ⟨hok, rfl⟩
  · have CL := Lib.hid (clone_c (HS.out.later hb1) HF.out hlen)
    rw [flat_bools] at ro
    have RO := Lib.hid ro
    have HOK := Lib.hid hok
    clear hb1 hok ra ro DF
    go_wp2_with fail
    refine CL.out.mono ?_
    rintro r w2 ⟨vc, rfl, rc, hb2⟩
    have B2 := Lib.hid (B1.out.trans (hb2.mono B1.out.size))
    have RO2 := Lib.hid (own_below RO.out hb2)
    have Z0 : Hid (ZAt w1 w2 swp cs vc 0) := ⟨by rw [chg_zero]; exact rc, ⟨hb2.os, hb2.tape, hb2.output, hb2.size, fun k hk _ => hb2.block k hk⟩⟩
    obtain ⟨c1, c2, rfl⟩ := own_len rc
    have BC := Lib.hid (fun k q => (rc.lt k q).1)
    have HB2 := Lib.hid hb2
    clear hb2 rc CL
    go_wp2_with fail
    go_loopg [20] cs.length (fun n k wr => ∃ j, j + n = cs.length ∧ k = .int .i64 j ∧ ZAt w1 wr swp cs (.slice c1 cs.length c2) j)
    case atStart => exact ⟨0, by omega, rfl, Z0.out⟩
    case round =>
      clear Z0
      obtain ⟨j, hj, rfl, hZ⟩ := hrel
      by_cases hk0 : gk = 0
      · subst hk0
        obtain rfl : j = cs.length := by omega
        have own := hZ.own
        rw [chg_all] at own
        have LM : (cs.map swp).length = cs.length := by simp
        have hbr : Below w1.heap.size w1 wr := hZ.keeps.below (fun k hk _ q => by have := BC.out k q; omega) (Nat.le_refl _)
        have ROr := Lib.hid (own_keeps RO.out hZ.keeps (fun k q r => by have := (RO.out.lt k q).2; have := BC.out k r; omega))
        have P1 := Lib.hid (play_any ((HS.out.later B1.out).later hbr) HV.out HOK.out (by decide) hlen)
        have SLM : Hid (Sl wr (.slice c1 cs.length c2) (cs.map swp).length ((cs.map swp).flatMap Cl.cells)) := by rw [LM]; exact Sl.of_own own
        have BR := Lib.hid (B1.out.trans (hbr.mono B1.out.size))
        clear hZ hj own hbr
        go_wp2_with fail
        refine P1.out.mono ?_
        rintro r w3 ⟨o1, rfl, r1, hb3⟩
        have HVM : ∀ c ∈ cs.map swp, c.v.ok := fun c hc => by
          obtain ⟨c', h1, rfl⟩ := List.mem_map.1 hc
          have := HV.out c' h1
          unfold swp; (repeat' split) <;> exact this
        have P2 := Lib.hid (play_any (SLM.out.later hb3) HVM (by rw [ok_swp]; exact HOK.out) (by decide) (by rw [LM]; exact hlen))
        have RO3 := Lib.hid (own_below ROr.out hb3)
        have R1 := Lib.hid r1
        have B3 := Lib.hid (BR.out.trans (hb3.mono BR.out.size))
        clear hb3 HVM r1 P1
        go_wp2_with fail
        refine P2.out.mono ?_
        rintro r w4 ⟨o2, rfl, r2, hb4⟩
        rw [ans_swp, LM] at r2
        have LA : (ansFrom Md.init cs).length = cs.length := ansFrom_length cs Md.init
        have LO : (openFrom Md.init cs).length = cs.length := openFrom_length cs Md.init
        have AG := Lib.hid (agree_c (w := w4) (A := ansFrom Md.init cs) (O := openFrom Md.init cs) (by rw [LA]; exact (Sl.of_own R1.out).later hb4) (by rw [LA]; exact Sl.of_own r2) (by rw [LA]; exact (Sl.of_own RO3.out).later hb4) (by rw [LA, LO]) (by rw [LA]; omega))
        have B4 := Lib.hid (B3.out.trans (hb4.mono B3.out.size))
        clear hb4 r2 P2 LA LO LM
        go_wp2_with fail
        refine AG.out.mono ?_
        rintro r w5 ⟨rfl, d, rfl⟩
        go_wp2
        go_ret
        exact ⟨rfl, Below.drewN' B4.out d⟩
      · have hjl : j < cs.length := by omega
        have hget := chg_get (f := swp) hjl
        have HC := Lib.hid (chg_succ (f := swp) hjl)
        obtain ⟨b1, cp1, hv1⟩ := own_form hZ.own (by omega)
        simp only [Value.slice.injEq] at hv1
        obtain ⟨rfl, hz1, rfl⟩ := hv1
        clear hz1
        have e0 : wr.cell? ⟨b1, j * 8, none⟩ = some (.int .i64 cs[j].op) := own_elem (t := 0) Cl.cells_length hZ.own (chg_len _ _ _) hget rfl
        have z0 : wr.frozen? ⟨b1, j * 8, none⟩ = false := hZ.own.frozenAt _
        have HZ := Lib.hid hZ; have HG := Lib.hid hget; have HJ := Lib.hid hj
        clear hZ hget hj
        by_cases h0 : cs[j].op = 0
        · have N : Hid (ZAt w1 (wr.setCell ⟨b1, j * 8, none⟩ (.int .i64 1)) swp cs (.slice (some ⟨b1, 0, none⟩) cs.length c2) (j + 1)) :=
            ⟨by rw [HC.out]; exact own_set1 (t := 0) (c' := swp cs[j]) (v := .int .i64 1) HZ.out.own HG.out (by decide) (by simp [swp, h0, Cl.cells]), HZ.out.keeps.setCell (p := ⟨b1, j * 8, none⟩) (fun _ => rfl) _⟩
          rw [h0] at e0
          clear h0
          go_wp2
          go_roundg (gk - 1)
          case measure => omega
          case rel => exact ⟨j + 1, by have := HJ.out; omega, by go_num, N.out⟩
        · by_cases h1 : cs[j].op = 1
          · have N : Hid (ZAt w1 (wr.setCell ⟨b1, j * 8, none⟩ (.int .i64 0)) swp cs (.slice (some ⟨b1, 0, none⟩) cs.length c2) (j + 1)) :=
              ⟨by rw [HC.out]; exact own_set1 (t := 0) (c' := swp cs[j]) (v := .int .i64 0) HZ.out.own HG.out (by decide) (by simp [swp, h1, Cl.cells]), HZ.out.keeps.setCell (p := ⟨b1, j * 8, none⟩) (fun _ => rfl) _⟩
            rw [h1] at e0
            clear h0 h1
            go_wp2
            go_roundg (gk - 1)
            case measure => omega
            case rel => exact ⟨j + 1, by have := HJ.out; omega, by go_num, N.out⟩
          · have N : Hid (ZAt w1 wr swp cs (.slice (some ⟨b1, 0, none⟩) cs.length c2) (j + 1)) := by
              refine ⟨?_, HZ.out.keeps⟩
              rw [HC.out]
              have e : swp cs[j] = cs[j] := by simp [swp, h0, h1]
              have e2 : (chg swp cs j).set j (swp cs[j]) = chg swp cs j := by
                rw [e]
                apply List.ext_getElem?
                intro i
                rw [List.getElem?_set]
                split
                · rename_i q; subst q; rw [if_pos (by rw [chg_len]; exact hjl), HG.out]
                · rfl
              rw [e2]; exact HZ.out.own
            have q0 : (cs[j].op == 0) = false := by simpa using h0
            have q1 : (cs[j].op == 1) = false := by simpa using h1
            generalize cs[j].op = op at *
            clear h0 h1
            go_wp2
            go_roundg (gk - 1)
            case measure => omega
            case rel => exact ⟨j + 1, by have := HJ.out; omega, by go_num, N.out⟩
  · clear DF hb1 hok
    go_wp2
    go_ret
    exact ⟨rfl, B1.out⟩
end Bead
end Go.Proofs.Ytdkahhocapepeaa
