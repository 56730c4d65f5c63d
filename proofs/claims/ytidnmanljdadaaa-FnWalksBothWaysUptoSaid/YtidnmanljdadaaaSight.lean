/- laws.see: what can be seen of a list. -/
import Derived.Test.YtidnmanljdadaaaScripts
set_option linter.all false
namespace Go.Proofs.Ytidnmanljdadaaa
open Go.RowKit
namespace Bead
set_option maxRecDepth 100000

theorem Try.infoIValue : (Try.prog.info? 30).map (fun i => (i.zero, i.size, i.bytes)) = some (some (.agg #[.int .i64 0, .int .i64 0, .string ⟨#[]⟩]), 3, 32) := by kernel_rfl

theorem own_cap {w : World} {B : Nat} {e : TypeId} {sz n c : Nat} {a : Option Addr} {xs : List Value} (h : w.ownsRow B e sz (.slice a n c) n xs) : n ≤ c := by
  rcases h.2 with ⟨q, z⟩ | ⟨_, _, _, q, _, _, hz, _⟩
  · omega
  · simp only [Value.slice.injEq] at q; omega
/-- What is seen of a list of a state, in memory. -/
structure Sight (B : Nat) (w : World) (m : Md) (l : Nat) (e b v : Value) : Prop where
  elems : Nats w e (m.names (m.seq l))
  back : Nats w b (m.names (m.seq l)).reverse
  vals : Vls w v ((m.seq l).map m.val)
  new : ∀ k, e.ownBlock = some k ∨ b.ownBlock = some k ∨ v.ownBlock = some k → B ≤ k ∧ k < w.heap.size
  room : ∀ a n c, e = .slice a n c → n ≤ c
  fairv : Value.fair v
def sightV (m : Md) (l : Nat) (e b v : Value) : Value := .agg #[e, b, v, .int .i64 ((m.seq l).length : Nat)]

/-- The first loop: the calls that read the values. -/
structure GAt (w wr : World) (NM : List Nat) (j : Nat) (v : Value) : Prop where
  own : wr.ownsRow w.heap.size 32 8 v j (((NM.take j).map cGet).flatMap Cl.cells)
  below : Below w.heap.size w wr
theorem GAt.next {w wr w2 : World} {NM : List Nat} {j x : Nat} {v v' : Value} {o : Obj} (h : GAt w wr NM j v) (hx : NM[j]? = some x)
    (hown : w2.ownsRow w.heap.size 32 8 v' (j + 1) (((NM.take j).map cGet).flatMap Cl.cells ++ (cGet x).cells)) (hg : (wr.alloc o).grownBy w2 v.ownBlock) : GAt w w2 NM (j + 1) v' := by
  obtain ⟨hj, e⟩ := List.getElem?_eq_some_iff.1 hx
  refine ⟨?_, below_grown (h.below.alloc h.below.size o) (h.own.alloc o) (Nat.le_refl _) hg⟩
  rw [List.take_succ_eq_append_getElem hj, List.map_append, cells_app, e]
  simpa using hown
/-- The second loop: the values. -/
structure VAt (w wr : World) (g : Nat) (L : List Vl) (j : Nat) (v : Value) : Prop where
  own : wr.ownsRow w.heap.size 30 3 v j ((L.take j).flatMap Vl.cells)
  cell : wr.heap[g]? = some (.cells #[.slice none 0 0, .slice none 0 0, v, .int .i64 0] 54 (0, 0))
  keeps : Keeps (fun k => k = g) w wr
  lt : g < w.heap.size
theorem VAt.same {w wr w2 : World} {g : Nat} {L : List Vl} {j : Nat} {v : Value} {o o' : Obj} (h : VAt w wr g L j v) (hg : ((wr.alloc o).alloc o').grownBy w2 v.ownBlock) : w2.heap[g]? = some (.cells #[.slice none 0 0, .slice none 0 0, v, .int .i64 0] 54 (0, 0)) := by
  have hlt := h.lt
  have hgw : g < wr.heap.size := Nat.lt_of_lt_of_le hlt h.keeps.size
  rw [hg.block g (by simp; omega) (fun q => by have := (h.own.lt g q.symm).1; omega)]
  rw [Below.heap_alloc _ _ _ (by simp; omega), Below.heap_alloc _ _ _ hgw]
  exact h.cell
theorem VAt.next {w wr w2 : World} {g : Nat} {L : List Vl} {j : Nat} {x : Vl} {v v' : Value} {o o' : Obj} (h : VAt w wr g L j v) (hx : L[j]? = some x)
    (hown : w2.ownsRow w.heap.size 30 3 v' (j + 1) ((L.take j).flatMap Vl.cells ++ x.cells)) (hg : ((wr.alloc o).alloc o').grownBy w2 v.ownBlock) : VAt w (w2.setCell ⟨g, 2, none⟩ v') g L (j + 1) v' := by
  have hlt := h.lt
  have hgw : g < wr.heap.size := Nat.lt_of_lt_of_le hlt h.keeps.size
  have hb : w2.heap[g]? = wr.heap[g]? := by
    rw [hg.block g (by simp; omega) (fun q => by have := (h.own.lt g q.symm).1; omega)]
    rw [Below.heap_alloc _ _ _ (by simp; omega), Below.heap_alloc _ _ _ hgw]
  refine ⟨?_, ?_, ?_, hlt⟩
  · rw [flat_snoc hx]
    exact own_of_blocks hown (fun k q => heap_set_other (fun z => by have := (hown.lt k q).1; simp at z; omega))
  · have := heap_set (o := 2) (v := v') (hb.trans h.cell)
    simpa using this
  · exact (((h.keeps.alloc o).alloc o').grown hg (fun k q hk => by have := (h.own.lt k q).1; omega)).setCell (fun _ => rfl) _

/-- The block of the result, as the last stores leave it. -/
def seven (wr : World) (g : Nat) (a b c f : Value) : World := (((((((wr.setCell ⟨g, 0, none⟩ a).setCell ⟨g, 1, none⟩ b).setCell ⟨g, 3, none⟩ c).setCell ⟨g, 0, none⟩ a).setCell ⟨g, 1, none⟩ b).setCell ⟨g, 2, none⟩ f).setCell ⟨g, 3, none⟩ c).drew
theorem keeps7 (wr : World) (g : Nat) (a b c f : Value) : Keeps (fun k => k = g) wr (seven wr g a b c f) :=
  have st : ∀ (x : World) (o : Nat) (v : Value), Keeps (fun k => k = g) wr x → Keeps (fun k => k = g) wr (x.setCell ⟨g, o, none⟩ v) := fun x o v h => h.setCell (p := ⟨g, o, none⟩) (fun _ => rfl) v
  (st _ 3 c (st _ 2 f (st _ 1 b (st _ 0 a (st _ 3 c (st _ 1 b (st _ 0 a (Keeps.refl _ _)))))))).drew
theorem cells7 {wr : World} {g : Nat} {p q v r : Value} {t : TypeId} (h : wr.heap[g]? = some (.cells #[p, q, v, r] t (0, 0))) (a b c f : Value) :
    (seven wr g a b c f).cell? ⟨g, 0, none⟩ = some a ∧ (seven wr g a b c f).cell? ⟨g, 1, none⟩ = some b ∧ (seven wr g a b c f).cell? ⟨g, 2, none⟩ = some f ∧ (seven wr g a b c f).cell? ⟨g, 3, none⟩ = some c := by
  have hh : (seven wr g a b c f).heap[g]? = some (.cells #[a, b, f, c] t (0, 0)) := by
    have h1 : (wr.setCell ⟨g, 0, none⟩ a).heap[g]? = some (.cells #[a, q, v, r] t (0, 0)) := heap_set h
    have h2 := heap_set (o := 1) (v := b) h1
    have h3 := heap_set (o := 3) (v := c) h2
    have h4 := heap_set (o := 0) (v := a) h3
    have h5 := heap_set (o := 1) (v := b) h4
    have h6 := heap_set (o := 2) (v := f) h5
    have h7 := heap_set (o := 3) (v := c) h6
    have e : ∀ X : World, X.drew.heap[g]? = X.heap[g]? := fun _ => rfl
    unfold seven
    rw [e, h7]
    rfl
  exact ⟨cell_of_heap hh rfl, cell_of_heap hh rfl, cell_of_heap hh rfl, cell_of_heap hh rfl⟩

set_option maxHeartbeats 4000000 in
theorem see_c {w : World} {v : Value} {cs : List Cl} {most : Nat} {l : Nat} (s : Scr w v cs) (hok : okFrom most Md.init cs = true) (hl : (runFrom Md.init cs).isL l = true) (hmost : most ≤ 2000) (hn : cs.length ≤ 274877906944) :
    Calls Try.prog 23 #[v, .int .i64 l] w fun r w' => ∃ e b x, r = .returned (.tuple #[sightV (runFrom Md.init cs) l e b x, .bool true]) ∧ Sight w.heap.size w' (runFrom Md.init cs) l e b x ∧ Below w.heap.size w w' := by
  have hw := WF.run cs WF.init hok
  obtain ⟨a1, a2, a3, a4, a5⟩ := see_all (most := most) hw hl
  have hnl : ((runFrom Md.init cs).seq l).length ≤ 2000 := by
    have := hw.seq_le l
    have := run_cnt_le _ hok (by simp [Md.init])
    omega
  have FW := Lib.hid (fun o => forward_c (s.later (below1 w o)) hok hl hmost (by omega))
  have e1 : runFrom Md.init (cs ++ (runFrom Md.init cs).walk false l) = (runFrom Md.init cs).behindWalk false l := by rw [runFrom_append, walk_run hw false hl]
  have ok1 : okFrom most Md.init (cs ++ (runFrom Md.init cs).walk false l) = true := walk_okA hok false hl
  have E1 := Lib.hid e1; have OK1 := Lib.hid ok1; have HL := Lib.hid hl
  have A1 := Lib.hid a1; have A2 := Lib.hid a2; have A4 := Lib.hid a4; have A5 := Lib.hid a5; have HOK := Lib.hid hok
  have LW := Lib.hid (walk_length (runFrom Md.init cs) false l)
  obtain ⟨sa, sc, rfl⟩ := s.form
  clear s hok hl e1 ok1 a1 a2 a3 a4 a5 hw
  go_enter Try.func23, Try.ntmps23
  go_wp2_with fail
  refine (FW.out _).mono ?_
  rintro r w1 ⟨v2, v3, rfl, s1, o1, hb1⟩
  have hB1 := Lib.hid ((below1 w _).trans (hb1.mono (by simp)))
  have G1 := Lib.hid ((hb1.block w.heap.size (by simp)).trans (heap_alloc_new w _))
  have BW := Lib.hid (backward_c (l := l) s1 OK1.out (by rw [E1.out]; exact HL.out) hmost (by rw [List.length_append, LW.out]; omega))
  obtain ⟨x1, x2, rfl⟩ := own_len o1
  have O1 := Lib.hid o1
  clear hb1 s1 o1 FW
  go_wp2_with fail
  refine BW.out.mono ?_
  rintro r w2 ⟨v4, v5, rfl, s2, o2, hb2⟩
  rw [E1.out] at s2 o2
  have hB2 := Lib.hid (hB1.out.trans (hb2.mono hB1.out.size))
  have G2 := Lib.hid ((hb2.block w.heap.size (Array.getElem?_eq_some_iff.1 G1.out).1).trans G1.out)
  have O1' := Lib.hid (own_below O1.out hb2)
  change w2.ownsRow w1.heap.size 3 1 v5 ((runFrom Md.init cs).seq l).length (ints (((runFrom Md.init cs).behindWalk false l).names ((runFrom Md.init cs).seq l).reverse)) at o2
  rw [both_names] at o2
  obtain ⟨z1, z2, rfl⟩ := own_len o2
  have O2 := Lib.hid o2
  have s2' : Scr w2 v4 (cs ++ (runFrom Md.init cs).both l) := by unfold Md.both; rw [← List.append_assoc]; exact s2
  have S2 := Lib.hid s2'
  have NT : Hid (Nats w2 (.slice x1 ((runFrom Md.init cs).seq l).length x2) ((runFrom Md.init cs).names ((runFrom Md.init cs).seq l))) := by
    show Sl _ _ _ _
    rw [names_length]; exact Sl.of_own O1'.out
  have NL := Lib.hid (names_length (m := runFrom Md.init cs) ((runFrom Md.init cs).seq l))
  have AS := Lib.hid (show ((runFrom Md.init cs).seq l).map (fun e => (⟨-1, 0, (runFrom Md.init cs).val e⟩ : An)) = (((runFrom Md.init cs).seq l).map (runFrom Md.init cs).val).map (fun v => (⟨-1, 0, v⟩ : An)) by simp)
  have LV := Lib.hid (show (((runFrom Md.init cs).seq l).map (runFrom Md.init cs).val).length = ((runFrom Md.init cs).seq l).length by simp)
  clear hb2 s2 s2' o2 BW
  go_wp2_with fail
  go_loopg [9, 37] ((runFrom Md.init cs).seq l).length (fun n c k wr => ∃ j, j + n = ((runFrom Md.init cs).seq l).length ∧ k = .int .i64 j ∧ GAt w2 wr ((runFrom Md.init cs).names ((runFrom Md.init cs).seq l)) j c)
  case atStart => exact ⟨0, by omega, rfl, World.ownsRow_nil _ _ _ _, Below.refl _ _⟩
  case round =>
    obtain ⟨j, hj, rfl, hG⟩ := hrel
    by_cases hk0 : gk = 0
    · subst hk0
      obtain rfl : j = ((runFrom Md.init cs).seq l).length := by omega
      have szr := hG.below.size
      have HG := Lib.hid hG
      clear hG hj
      go_wp2_with (at_builtin; refine wpList_app2 rfl (.tmp 47) (.tmp 50) 22 rfl w2.heap.size 32 _ 8 72 Try.underlying22 Try.infoICall rfl (by decide) _ _ _ rfl (HG.out.own.alloc _) _ 1 (cLen l).cells rfl (sl_at' _ _ _ _ _ _ (by simp)) rfl (by simp [Cl.cells, Value.oneCell']) (.inr (.inr (by decide))) (by omega) (by decide) (by simp; omega) ?_; intro v' w3 hown hg hn; have B3 := Lib.hid (below_grown (HG.out.below.alloc szr _) (HG.out.own.alloc _) (Nat.le_refl _) hg); have RD := Lib.hid hown; clear hown hg hn)
      have SR3 : Scr w3 v' ((runFrom Md.init cs).reads l) := by
        have q := RD.out
        rw [List.take_of_length_le (by rw [NL.out]; exact Nat.le_refl _)] at q
        refine Scr.of_own (B := w2.heap.size) ?_ (fun c hc => ?_)
        · have e : ((runFrom Md.init cs).reads l).length = ((runFrom Md.init cs).seq l).length + 1 := by unfold Md.reads; rw [List.length_append, List.length_map, NL.out]; rfl
          rw [e]
          unfold Md.reads
          rw [cells_app]
          simpa using q
        · unfold Md.reads at hc
          simp only [List.mem_append, List.mem_map, List.mem_singleton] at hc
          rcases hc with ⟨_, _, rfl⟩ | rfl <;> exact vl_zero_ok
      have LB : ((runFrom Md.init cs).both l).length ≤ 4002 := by
        unfold Md.both
        rw [List.length_append, LW.out, walk_length]
        show _ + 1 + (((runFrom Md.init cs).seq l).length + 1) ≤ _
        omega
      have LR : ((runFrom Md.init cs).reads l).length = ((runFrom Md.init cs).seq l).length + 1 := by unfold Md.reads; rw [List.length_append, List.length_map, NL.out]; rfl
      have e2 : runFrom Md.init (cs ++ (runFrom Md.init cs).both l) = (runFrom Md.init cs).behindBoth l := by rw [runFrom_append, A2.out]
      have BH := Lib.hid (behind_c (S2.out.later B3.out) SR3 (by rw [okFrom_append, okFrom_append, HOK.out, A1.out, e2, A4.out]; rfl) (by omega) (by rw [List.length_append, LR]; omega))
      have E2 := Lib.hid e2; have LR' := Lib.hid LR
      have G3 := Lib.hid ((B3.out.block w.heap.size (Nat.lt_of_lt_of_le (Array.getElem?_eq_some_iff.1 G2.out).1 (Nat.le_refl _))).trans G2.out)
      clear SR3 LB e2 LR
      go_wp2_with fail
      refine BH.out.mono ?_
      rintro r w4 ⟨va, rfl, s4, rm4, hb4⟩
      rw [E2.out, A5.out, AS.out, LR'.out] at s4
      have B4 := Lib.hid (B3.out.trans (hb4.mono B3.out.size))
      have G4 := Lib.hid ((hb4.block w.heap.size (Array.getElem?_eq_some_iff.1 G3.out).1).trans G3.out)
      have g4lt := (Array.getElem?_eq_some_iff.1 G4.out).1
      obtain ⟨b4, o4, c4, hva, cell4⟩ := Sl.elem (l := (((runFrom Md.init cs).seq l).map (runFrom Md.init cs).val).map (fun v => (⟨-1, 0, v⟩ : An)) ++ [⟨-1, (((runFrom Md.init cs).seq l).length : Nat), Vl.zero⟩]) An.cells_length (by decide) (by rw [List.length_append, List.length_map, LV.out]; exact s4) (by simp)
      rw [List.length_append, List.length_map, LV.out] at hva
      simp only [List.length_singleton] at hva
      subst hva
      have hc4 := rm4.1 _ _ _ rfl
      have hg4 : ¬ b4 = w.heap.size := fun q => by
        have h1 := rm4.2 b4 rfl
        have h2 := (Array.getElem?_eq_some_iff.1 G3.out).1
        omega
      generalize hVL : ((runFrom Md.init cs).seq l).map (runFrom Md.init cs).val = VL at *
      have CELL : Hid (∀ (i : Nat) (x : Vl), VL[i]? = some x → ∀ t y, (⟨-1, 0, x⟩ : An).cells[t]? = some y → w4.cell? ⟨b4, o4 + i * 5 + t, none⟩ = some y) := fun i x hx t y hy => by
        rw [Nat.add_assoc]
        exact cell4 i _ (by rw [List.getElem?_append_left (by have := (List.getElem?_eq_some_iff.1 hx).1; simpa using this), List.getElem?_map, hx]; rfl) t y hy
      have LAST := Lib.hid (show w4.cell? ⟨b4, o4 + ((runFrom Md.init cs).seq l).length * 5 + 1, none⟩ = some (.int .i64 (((runFrom Md.init cs).seq l).length : Nat)) by
        have := cell4 ((runFrom Md.init cs).seq l).length _ (by rw [List.getElem?_append_right (by rw [List.length_map, LV.out]; exact Nat.le_refl _)]; simp [LV.out]; rfl) 1 _ rfl
        rw [Nat.add_assoc]; exact this)
      have HVL := Lib.hid hVL; have HG4 := Lib.hid hg4
      clear hb4 s4 rm4 cell4 BH hVL
      go_wp2_with fail
      go_loopg [60] ((runFrom Md.init cs).seq l).length (fun n k wr => ∃ j vv, j + n = ((runFrom Md.init cs).seq l).length ∧ k = .int .i64 j ∧ VAt w4 wr w.heap.size VL j vv)
      case atStart => exact ⟨0, .slice none 0 0, by omega, rfl, World.ownsRow_nil _ _ _ _, G4.out, Keeps.refl _ _, g4lt⟩
      case round =>
        obtain ⟨j, vv, hj, rfl, hV⟩ := hrel
        obtain ⟨t1, t2, rfl⟩ := own_len hV.own
        have hgr : w.heap.size < wr.heap.size := Nat.lt_of_lt_of_le hV.lt hV.keeps.size
        by_cases hk0 : gk = 0
        · subst hk0
          obtain rfl : j = ((runFrom Md.init cs).seq l).length := by omega
          have last := hV.keeps.cell LAST.out hg4
          have c0 := cell_of_heap (o := 0) hV.cell rfl
          have c1 := cell_of_heap (o := 1) hV.cell rfl
          have c2 := cell_of_heap (o := 2) hV.cell rfl
          have c3 := cell_of_heap (o := 3) hV.cell rfl
          have f0 : wr.frozen? ⟨w.heap.size, 0, none⟩ = false := free_of_heap hV.cell
          have f1 : wr.frozen? ⟨w.heap.size, 1, none⟩ = false := free_of_heap hV.cell
          have f2 : wr.frozen? ⟨w.heap.size, 2, none⟩ = false := free_of_heap hV.cell
          have f3 : wr.frozen? ⟨w.heap.size, 3, none⟩ = false := free_of_heap hV.cell
          have HV := Lib.hid hV
          have hglt := hV.lt
          clear hV hj
          have FIN : Hid (∀ X, Keeps (fun k => k = w.heap.size) wr X → Sight w.heap.size X (runFrom Md.init cs) l (.slice x1 ((runFrom Md.init cs).seq l).length x2) (.slice z1 ((runFrom Md.init cs).seq l).length z2) (.slice t1 ((runFrom Md.init cs).seq l).length t2) ∧ Below w.heap.size w X) := fun X hX => by
            have k4 : Keeps (fun k => k = w.heap.size) w4 X := HV.out.keeps.trans hX
            refine ⟨⟨?_, ?_, ?_, ?_, fun a n c q => by simp only [Value.slice.injEq] at q; obtain ⟨_, rfl, rfl⟩ := q; exact own_cap O1.out, own_fair HV.out.own⟩, ?_⟩
            · refine Sl.keep (NT.out.later B4.out) k4 (fun b q r => ?_)
              have := (O1.out.lt b q).1
              simp at this; omega
            · have q : Nats w2 (.slice z1 ((runFrom Md.init cs).seq l).length z2) ((runFrom Md.init cs).names ((runFrom Md.init cs).seq l)).reverse := by
                show Sl _ _ _ _
                rw [List.length_reverse, NL.out]; exact Sl.of_own O2.out
              refine Sl.keep (q.later B4.out) k4 (fun b q r => ?_)
              have := (O2.out.lt b q).1
              have := (Array.getElem?_eq_some_iff.1 G1.out).1
              omega
            · have own := HV.out.own
              rw [List.take_of_length_le (by rw [LV.out]; exact Nat.le_refl _)] at own
              show Sl _ _ _ _
              rw [HVL.out, LV.out]
              refine Sl.keep (Sl.of_own own) hX (fun b q r => ?_)
              have := (own.lt b q).1
              omega
            · have sz1 := hX.size
              have sz2 := HV.out.keeps.size
              have sz3 := B4.out.size
              have sz4 := hB1.out.size
              have sz5 := O1'.out.lt
              rintro k (q | q | q)
              · have h1 := (O1.out.lt k q).1
                have h2 := (O1'.out.lt k q).2
                simp at h1; omega
              · have h1 := O2.out.lt k q
                omega
              · have h1 := HV.out.own.lt k q
                have h2 := hB2.out.size
                omega
            · exact (hB2.out.trans (B4.out.mono hB2.out.size)).trans (k4.below (fun k hk _ q => by omega) (Nat.le_trans hB2.out.size B4.out.size))
          go_wp2_with fail
          go_region
          all_goals
            go_wp2
            have kk := FIN.out _ (keeps7 wr w.heap.size (.slice x1 ((runFrom Md.init cs).seq l).length x2) (.slice z1 ((runFrom Md.init cs).seq l).length z2) (.int .i64 (((runFrom Md.init cs).seq l).length : Nat)) (.slice t1 ((runFrom Md.init cs).seq l).length t2))
            obtain ⟨k0, k1, k2, k3⟩ := cells7 HV.out.cell (.slice x1 ((runFrom Md.init cs).seq l).length x2) (.slice z1 ((runFrom Md.init cs).seq l).length z2) (.int .i64 (((runFrom Md.init cs).seq l).length : Nat)) (.slice t1 ((runFrom Md.init cs).seq l).length t2)
            change bodyPost _ _ _ _ _ (seven wr w.heap.size (.slice x1 ((runFrom Md.init cs).seq l).length x2) (.slice z1 ((runFrom Md.init cs).seq l).length z2) (.int .i64 (((runFrom Md.init cs).seq l).length : Nat)) (.slice t1 ((runFrom Md.init cs).seq l).length t2))
            generalize seven wr w.heap.size (.slice x1 ((runFrom Md.init cs).seq l).length x2) (.slice z1 ((runFrom Md.init cs).seq l).length z2) (.int .i64 (((runFrom Md.init cs).seq l).length : Nat)) (.slice t1 ((runFrom Md.init cs).seq l).length t2) = X at kk k0 k1 k2 k3 ⊢
            exact bodyPost_ret (v := .tuple #[sightV (runFrom Md.init cs) l (.slice x1 ((runFrom Md.init cs).seq l).length x2) (.slice z1 ((runFrom Md.init cs).seq l).length z2) (.slice t1 ((runFrom Md.init cs).seq l).length t2), .bool true])
              (by simp [results, Try.results23, go_sem, sightV, k0, k1, k2, k3]) rfl ⟨_, _, _, rfl, kk⟩
        · have hjl : j < VL.length := by rw [LV.out]; omega
          have hjn : j < ((runFrom Md.init cs).seq l).length := by omega
          obtain ⟨x, hx⟩ : ∃ x, VL[j]? = some x := ⟨_, List.getElem?_eq_getElem hjl⟩
          have cc : ∀ t y, (⟨-1, 0, x⟩ : An).cells[t]? = some y → wr.cell? ⟨b4, o4 + j * 5 + t, none⟩ = some y := fun t y hy => hV.keeps.cell (CELL.out j x hx t y hy) hg4
          have e0 := cc 0 _ rfl; have e1 := cc 1 _ rfl; have e2 := cc 2 _ rfl; have e3 := cc 3 _ rfl; have e4 := cc 4 _ rfl
          simp only [Nat.add_zero] at e0
          have c2 := cell_of_heap (o := 2) hV.cell rfl
          have szr := hV.keeps.size
          have hglt := hV.lt
          have hv2 := Lib.hid (fun k q => (hV.own.lt k q).1)
          have HV := Lib.hid hV; have HX := Lib.hid hx; have HJ := Lib.hid hj
          clear hV hx hj cc hjl
          go_wp2_with (at_builtin; refine wpList_app2 rfl (.tmp 65) (.tmp 68) 37 rfl w4.heap.size 30 _ 3 32 Try.underlying37 Try.infoIValue rfl (by decide) _ _ _ rfl ((HV.out.own.alloc _).alloc _) _ 1 x.cells rfl (sl_at' _ _ _ _ _ _ (by simp)) rfl (by simp [Vl.cells, Value.oneCell']) (.inr (.inr (by decide))) (by omega) (by decide) (by simp; omega) ?_; intro v' w5 hown hg hn; obtain ⟨t3, t4, hv'⟩ := own_len hown; subst hv'; have N2 := Lib.hid (HV.out.next HX.out hown hg); have g2 := cell_of_heap (o := 2) (HV.out.same hg) rfl; have f2 : w5.frozen? ⟨w.heap.size, 2, none⟩ = false := free_of_heap (HV.out.same hg); clear hown hg hn)
          go_roundg (gk - 1)
          case measure => omega
          case rel => exact ⟨j + 1, _, by have := HJ.out; omega, by go_num, N2.out⟩
    · have hjl : j < ((runFrom Md.init cs).seq l).length := by omega
      obtain ⟨x, hx⟩ : ∃ x, ((runFrom Md.init cs).names ((runFrom Md.init cs).seq l))[j]? = some x := ⟨_, List.getElem?_eq_getElem (by rw [NL.out]; exact hjl)⟩
      obtain ⟨b1, q1, p1, hv1, cell1⟩ := NT.out.cells (by intro q; rw [q] at hx; simp at hx)
      rw [NL.out] at hv1
      simp only [Value.slice.injEq] at hv1
      obtain ⟨rfl, hz1, rfl⟩ := hv1
      clear hz1
      have hbl : b1 < w2.heap.size := World.block_lt_of_cell? w2 _ (cell1 j x hx)
      have e1 := (hG.below.cell (p := ⟨b1, q1 + j, none⟩) hbl).trans (cell1 j x hx)
      have szr := hG.below.size
      have HG := Lib.hid hG; have HX := Lib.hid hx; have HJ := Lib.hid hj
      clear hG hx hj cell1
      go_wp2_with (at_builtin; refine wpList_app2 rfl (.tmp 41) (.tmp 44) 22 rfl w2.heap.size 32 _ 8 72 Try.underlying22 Try.infoICall rfl (by decide) _ _ _ rfl (HG.out.own.alloc _) _ 1 (cGet x).cells rfl (sl_at' _ _ _ _ _ _ (by simp)) rfl (by simp [Cl.cells, Value.oneCell']) (.inr (.inr (by decide))) (by omega) (by decide) (by simp; omega) ?_; intro v' w3 hown hg hn; have N2 := Lib.hid (HG.out.next HX.out hown hg); clear hown hg hn)
      go_roundg (gk - 1)
      case measure => omega
      case rel => exact ⟨j + 1, by have := HJ.out; omega, by go_num, N2.out⟩
end Bead
end Go.Proofs.Ytidnmanljdadaaa

/- laws.sight.same, slices.EqualFunc of sights. -/
namespace Go.Proofs.Ytidnmanljdadaaa
open Go.RowKit
namespace Bead
set_option maxRecDepth 100000

/-- A sight as it lies in memory: its three slices and its length. -/
structure SV where
  e : Value
  b : Value
  v : Value
  n : Nat
def SV.cells (s : SV) : List Value := [s.e, s.b, s.v, .int .i64 (s.n : Nat)]
theorem SV.cells_length (s : SV) : s.cells.length = 4 := rfl
def SV.agg (s : SV) : Value := .agg #[s.e, s.b, s.v, .int .i64 (s.n : Nat)]
/-- What it reads as. -/
structure Reads (w : World) (s : SV) (E : List Nat) (V : List Vl) : Prop where
  elems : Nats w s.e E
  back : Nats w s.b E.reverse
  vals : Vls w s.v V
theorem Reads.later {w w' : World} {s : SV} {E : List Nat} {V : List Vl} (h : Reads w s E V) (hb : Below w.heap.size w w') : Reads w' s E V := ⟨h.elems.later hb, h.back.later hb, Sl.later h.vals hb⟩

/-- The blocks in which it lies. -/
def SV.holds (s : SV) (k : Nat) : Prop := s.e.ownBlock = some k ∨ s.b.ownBlock = some k ∨ s.v.ownBlock = some k
/-- It is what is seen of a list. -/
structure Seen (w : World) (M : Md) (l : Nat) (s : SV) : Prop where
  reads : Reads w s (M.names (M.seq l)) ((M.seq l).map M.val)
  n : s.n = (M.seq l).length
  lt : ∀ k, s.holds k → k < w.heap.size
  room : ∀ a n c, s.e = .slice a n c → n ≤ c
  fairv : Value.fair s.v
theorem Reads.keep {w w' : World} {s : SV} {E : List Nat} {V : List Vl} {S : Nat → Prop} (h : Reads w s E V) (hk : Keeps S w w') (hS : ∀ k, s.holds k → ¬ S k) : Reads w' s E V :=
  ⟨Sl.keep h.elems hk (fun b q => hS b (.inl q)), Sl.keep h.back hk (fun b q => hS b (.inr (.inl q))), Sl.keep h.vals hk (fun b q => hS b (.inr (.inr q)))⟩
theorem Seen.keep {w w' : World} {M : Md} {l : Nat} {s : SV} {S : Nat → Prop} (h : Seen w M l s) (hk : Keeps S w w') (hS : ∀ k, s.holds k → ¬ S k) : Seen w' M l s :=
  ⟨h.reads.keep hk hS, h.n, fun k q => Nat.lt_of_lt_of_le (h.lt k q) hk.size, h.room, h.fairv⟩
theorem Seen.later {w w' : World} {M : Md} {l : Nat} {s : SV} (h : Seen w M l s) (hb : Below w.heap.size w w') : Seen w' M l s :=
  ⟨h.reads.later hb, h.n, fun k q => Nat.lt_of_lt_of_le (h.lt k q) hb.size, h.room, h.fairv⟩
theorem see_s {w : World} {v : Value} {cs : List Cl} {most : Nat} {l : Nat} (s : Scr w v cs) (hok : okFrom most Md.init cs = true) (hl : (runFrom Md.init cs).isL l = true) (hmost : most ≤ 2000) (hn : cs.length ≤ 274877906944) :
    Calls Try.prog 23 #[v, .int .i64 l] w fun r w' => ∃ x : SV, r = .returned (.tuple #[x.agg, .bool true]) ∧ Seen w' (runFrom Md.init cs) l x ∧ (∀ k, x.holds k → w.heap.size ≤ k) ∧ Below w.heap.size w w' :=
  (see_c s hok hl hmost hn).mono fun r w' ⟨e, b, x, h1, h2, h3⟩ => ⟨⟨e, b, x, ((runFrom Md.init cs).seq l).length⟩, h1, ⟨⟨h2.elems, h2.back, h2.vals⟩, rfl, fun k q => (h2.new k q).2, h2.room, h2.fairv⟩, fun k q => (h2.new k q).1, h3⟩

set_option maxHeartbeats 1000000 in
theorem same_c {w : World} {s t : SV} {E : List Nat} {V : List Vl} (h : Reads w s E V) (h' : Reads w t E V) (hn : s.n = t.n) (hE : E.length ≤ 1099511627776) (hV : V.length ≤ 1099511627776) :
    Calls Try.prog 32 #[s.agg, t.agg] w fun r w' => r = .returned (.bool true) ∧ Below w.heap.size w w' := by
  obtain ⟨e, b, v, n⟩ := s
  obtain ⟨e', b', v', n'⟩ := t
  simp only at hn
  subst hn
  simp only [SV.agg]
  have C1 := Lib.hid (fun o o' => equalInt_c (h.elems.later (below2 w o o')) (h'.elems.later (below2 w o o')) (by omega))
  have C2 := Lib.hid (fun o o' d => equalInt_c ((h.back.later (below2 w o o')).drewN d) ((h'.back.later (below2 w o o')).drewN d) (by simp; omega))
  have C3 := Lib.hid (fun o o' d => equalVal_c (Sl.later (Sl.later h.vals (below2 w o o')) (Below.drewN' (Below.refl _ ((w.alloc o).alloc o')) d)) (Sl.later (Sl.later h'.vals (below2 w o o')) (Below.drewN' (Below.refl _ ((w.alloc o).alloc o')) d)) (by omega))
  obtain ⟨e1, e2, he⟩ := h.elems.form
  obtain ⟨b1, b2, hb⟩ := h.back.form
  obtain ⟨v1, v2, hv, _⟩ := h.vals
  obtain ⟨e1', e2', he'⟩ := h'.elems.form
  obtain ⟨b1', b2', hb'⟩ := h'.back.form
  obtain ⟨v1', v2', hv', _⟩ := h'.vals
  simp only at he hb hv he' hb' hv'
  subst he hb hv he' hb' hv'
  simp only [List.length_reverse] at C1 C2 C3 ⊢
  clear h h'
  go_enter Try.func32, Try.ntmps32
  go_wp2_with fail
  refine (C1.out _ _).mono ?_
  rintro r w1 ⟨rfl, d, rfl⟩
  go_wp2_with fail
  refine (C2.out _ _ _).mono ?_
  rintro r w1 ⟨rfl, d', rfl⟩
  go_wp2_with fail
  refine (C3.out _ _ _).mono ?_
  rintro r w1 ⟨rfl, d'', rfl⟩
  go_wp2
  go_ret
  exact ⟨rfl, Below.drewN' (below2 _ _ _) _⟩

end Bead
end Go.Proofs.Ytidnmanljdadaaa

/- laws.all, laws.alike. -/
namespace Go.Proofs.Ytidnmanljdadaaa
open Go.RowKit
namespace Bead
set_option maxRecDepth 100000

theorem Try.infoSight : (Try.prog.info? 54).map (fun i => (i.zero, i.size, i.bytes)) = some (some (.agg #[.slice none 0 0, .slice none 0 0, .slice none 0 0, .int .i64 0]), 4, 80) := by kernel_rfl

structure AAt (w wr : World) (M : Md) (Ls : List Nat) (j : Nat) (v : Value) (XS : List SV) : Prop where
  len : XS.length = j
  own : wr.ownsRow w.heap.size 54 4 v j (XS.flatMap SV.cells)
  seen : ∀ (k l : Nat) (s : SV), Ls[k]? = some l → XS[k]? = some s → Seen wr M l s
  apart : ∀ k, v.ownBlock = some k → ∀ s ∈ XS, ¬ s.holds k
  lt : ∀ s ∈ XS, ∀ k, s.holds k → k < wr.heap.size
  below : Below w.heap.size w wr
theorem AAt.start (w : World) (M : Md) (Ls : List Nat) : AAt w w M Ls 0 (.slice none 0 0) [] :=
  ⟨rfl, World.ownsRow_nil _ _ _ _, fun k l s _ h => by simp at h, fun k q => by simp [Value.ownBlock] at q, by simp, Below.refl _ _⟩
theorem AAt.next {w wr w1 w2 : World} {M : Md} {Ls : List Nat} {j l : Nat} {v v' : Value} {XS : List SV} {s : SV} {o o' : Obj} (h : AAt w wr M Ls j v XS) (hl : Ls[j]? = some l)
    (hb : Below wr.heap.size wr w1) (hs : Seen w1 M l s) (hnew : ∀ k, s.holds k → wr.heap.size ≤ k)
    (hown : w2.ownsRow w.heap.size 54 4 v' (j + 1) (XS.flatMap SV.cells ++ s.cells)) (hg : ((w1.alloc o).alloc o').grownBy w2 v.ownBlock) (hn : ∀ k, v'.ownBlock = some k → v.ownBlock = some k ∨ ((w1.alloc o).alloc o').heap.size ≤ k) :
    AAt w w2 M Ls (j + 1) v' (XS ++ [s]) := by
  have hlt : ∀ k, v.ownBlock = some k → k < wr.heap.size := fun k q => (h.own.lt k q).2
  have kg : Keeps (fun k => v.ownBlock = some k) w1 w2 := by
    have k1 : Keeps (fun k => v.ownBlock = some k) w1 ((w1.alloc o).alloc o') := ((Keeps.refl _ _).alloc _).alloc _
    exact k1.grown hg (fun k q _ => q)
  have sapart : ∀ k, s.holds k → ¬ v.ownBlock = some k := fun k q r => by have := hnew k q; have := hlt k r; omega
  have hold : ∀ k, ∀ s' ∈ XS ++ [s], s'.holds k → k < w1.heap.size := fun k s' hs' q => by
    rcases List.mem_append.1 hs' with z | z
    · exact Nat.lt_of_lt_of_le (h.lt s' z k q) hb.size
    · simp at z; subst z; exact hs.lt k q
  refine ⟨by simp [h.len], by rw [List.flatMap_append]; simpa using hown, fun k l' s' hk hx => ?_, fun k q s' hs' => ?_, fun s' hs' k q => Nat.lt_of_lt_of_le (hold k s' hs' q) kg.size, ?_⟩
  · by_cases z : k < XS.length
    · rw [List.getElem?_append_left z] at hx
      exact ((h.seen k l' s' hk hx).later hb).keep kg (fun b q r => h.apart b r s' (List.mem_of_getElem? hx) q)
    · have hkl : k = XS.length := by
        have := (List.getElem?_eq_some_iff.1 hx).1
        simp at this; omega
      subst hkl
      rw [List.getElem?_append_right (Nat.le_refl _)] at hx
      simp at hx
      subst hx
      rw [h.len, hl] at hk
      simp at hk
      subst hk
      exact hs.keep kg sapart
  · intro hq
    rcases hn k q with z | z
    · rcases List.mem_append.1 hs' with y | y
      · exact h.apart k z s' y hq
      · simp at y; subst y; exact sapart k hq z
    · have := hold k s' hs' hq
      simp at z; omega
  · have hb2 : Below w.heap.size w w1 := h.below.trans (hb.mono h.below.size)
    exact below_grown (below_alloc2 hb2 o o') (((own_below h.own hb).alloc o).alloc o') (Nat.le_refl _) hg

set_option maxHeartbeats 2000000 in
theorem all_c {w : World} {v1 v2 : Value} {cs ds : List Cl} {most : Nat} (s1 : Scr w v1 cs) (s2 : Scr w v2 ds) (hok : okFrom most Md.init ds = true) (hL : ∀ l ∈ listsOf cs, (runFrom Md.init ds).isL l = true) (hmost : most ≤ 2000) (hn : cs.length ≤ 274877906944) (hn2 : ds.length ≤ 274877906944) :
    Calls Try.prog 31 #[v1, v2] w fun r w' => ∃ v' XS, r = .returned (.tuple #[v', .bool true]) ∧ AAt w w' (runFrom Md.init ds) (listsOf cs) (listsOf cs).length v' XS := by
  have LS := Lib.hid (lists_c s1 (by omega))
  have S2 := Lib.hid s2; have HOK := Lib.hid hok; have HL := Lib.hid hL
  obtain ⟨a1, c1, rfl⟩ := s1.form
  clear s1 s2 hok hL
  go_enter Try.func31, Try.ntmps31
  go_wp2_with fail
  refine LS.out.mono ?_
  rintro r w1 ⟨vl, rfl, rl, hb1⟩
  have B1 := Lib.hid hb1
  have NT : Hid (Nats w1 vl (listsOf cs)) := Nats.of_own rl
  have hll : (listsOf cs).length ≤ cs.length := listsAt_length cs 0
  obtain ⟨x1, x2, rfl⟩ := own_len rl
  clear hb1 rl LS
  go_wp2_with fail
  go_loopg [6, 14] (listsOf cs).length (fun n o k wr => ∃ j XS, j + n = (listsOf cs).length ∧ k = .int .i64 j ∧ AAt w1 wr (runFrom Md.init ds) (listsOf cs) j o XS)
  case atStart => exact ⟨0, [], by omega, rfl, AAt.start _ _ _⟩
  case round =>
    obtain ⟨j, XS, hj, rfl, hA⟩ := hrel
    by_cases hk0 : gk = 0
    · subst hk0
      obtain rfl : j = (listsOf cs).length := by omega
      have F : Hid (AAt w wr (runFrom Md.init ds) (listsOf cs) (listsOf cs).length u6 XS) := ⟨hA.len, own_base hA.own B1.out.size, hA.seen, hA.apart, hA.lt, B1.out.trans (hA.below.mono B1.out.size)⟩
      clear hA hj
      go_wp2
      go_ret2
      exact ⟨_, XS, rfl, F.out⟩
    · have hjl : j < (listsOf cs).length := by omega
      obtain ⟨l, hl⟩ : ∃ l, (listsOf cs)[j]? = some l := ⟨_, List.getElem?_eq_getElem hjl⟩
      obtain ⟨b1, o1, p1, hv1, cell1⟩ := NT.out.cells (by intro q; rw [q] at hl; simp at hl)
      simp only [Value.slice.injEq] at hv1
      obtain ⟨rfl, hz1, rfl⟩ := hv1
      clear hz1
      have hbl : b1 < w1.heap.size := World.block_lt_of_cell? w1 _ (cell1 j l hl)
      have e1 := (hA.below.cell (p := ⟨b1, o1 + j, none⟩) hbl).trans (cell1 j l hl)
      have SE := Lib.hid (see_s ((S2.out.later B1.out).later hA.below) HOK.out (HL.out l (List.mem_of_getElem? hl)) hmost hn2)
      have HA := Lib.hid hA; have HX := Lib.hid hl; have HJ := Lib.hid hj
      obtain ⟨y1, y2, rfl⟩ := own_len hA.own
      clear hA hl hj cell1
      go_wp2_with fail
      refine SE.out.mono ?_
      rintro r w2 ⟨s, rfl, hs, hnew, hb2⟩
      have HS := Lib.hid hs; have HN := Lib.hid hnew; have B2 := Lib.hid hb2
      have sz2 : w1.heap.size ≤ w2.heap.size := Nat.le_trans HA.out.below.size hb2.size
      obtain ⟨se, sb, sv, sn⟩ := s
      obtain ⟨e1, e2, he⟩ := hs.reads.elems.form
      obtain ⟨g1, g2, hg⟩ := hs.reads.back.form
      obtain ⟨v1, v2, hv, _⟩ := hs.reads.vals
      simp only at he hg hv
      subst he hg hv
      simp only [SV.agg, names_length, List.length_reverse, List.length_map]
      simp only [names_length, List.length_reverse, List.length_map] at HS HN
      have OW := Lib.hid (own_below HA.out.own hb2)
      clear hs hnew hb2 SE
      go_wp2_with (at_builtin; refine wpList_app2 rfl (.tmp 26) (.tmp 28) 67 rfl w1.heap.size 54 _ 4 80 Try.underlying67 Try.infoSight rfl (by decide) _ _ _ rfl ((OW.out.alloc _).alloc _) _ 1 (SV.mk (.slice e1 ((runFrom Md.init ds).seq l).length e2) (.slice g1 ((runFrom Md.init ds).seq l).length g2) (.slice v1 ((runFrom Md.init ds).seq l).length v2) sn).cells rfl (sl_at' _ _ _ _ _ _ (by simp)) rfl (by simp [SV.cells, Value.oneCell']) (.inr (.inr (by decide))) (by omega) (by decide) (by simp; omega) ?_; intro v' w3 hown hg hn; have N2 := Lib.hid (HA.out.next HX.out B2.out HS.out HN.out hown hg hn); clear hown hg hn)
      go_roundg (gk - 1)
      case measure => omega
      case rel => exact ⟨j + 1, _, by have := HJ.out; omega, by go_num, N2.out⟩

end Bead
end Go.Proofs.Ytidnmanljdadaaa
