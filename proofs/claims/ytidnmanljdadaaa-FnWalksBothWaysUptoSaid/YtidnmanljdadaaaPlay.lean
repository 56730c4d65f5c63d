/- The contract of impl.Play: for every script whose calls are all permitted (with whatever bound on the number of elements), it returns the answers of the plain model, in new memory. -/
import Derived.Test.YtidnmanljdadaaaMem
import Derived.Test.YtidnmanljdadaaaStep
set_option linter.all false
namespace Go.Proofs.Ytidnmanljdadaaa
open Go.RowKit
namespace Bead
set_option maxRecDepth 100000

theorem Try.infoAnswer : (Try.prog.info? 41).map (fun i => (i.zero, i.size, i.bytes)) = some (some (.agg #[.int .i64 0, .int .i64 0, .int .i64 0, .int .i64 0, .string ⟨#[]⟩]), 5, 48) := by kernel_rfl
theorem Try.infopList : (Try.prog.info? 107).map (fun i => (i.zero, i.size, i.bytes)) = some (some (.pointer none), 1, 8) := by kernel_rfl
theorem Try.infopElem : (Try.prog.info? 109).map (fun i => (i.zero, i.size, i.bytes)) = some (some (.pointer none), 1, 8) := by kernel_rfl

/-- Nothing is there yet. -/
def BM.none : BM := ⟨fun _ => False, fun _ => False, fun _ => [], fun _ => Option.none, fun _ => .nilIface⟩
theorem BRep.none (w : World) : BRep w BM.none :=
  ⟨fun _ => Option.none, fun _ => Option.none, ⟨fun _ h => h.elim, fun _ h => h.elim⟩, ⟨fun _ h => h.elim, fun _ h => h.elim, fun _ _ h => h.elim, fun _ h => h.elim, fun _ h => h.elim⟩⟩
theorem Rel.none (bl be : Nat → Nat) : Rel Md.init BM.none bl be := by
  refine ⟨fun k => ⟨fun h => h.elim, fun ⟨i, h, _⟩ => by simp [Md.init] at h⟩, fun k => ⟨fun h => h.elim, fun ⟨e, h, _⟩ => by simp [Md.init] at h⟩, ?_, ?_, ?_, ?_⟩ <;> simp [Md.init]

theorem row_made (w : World) (t : TypeId) (n : Nat) : Row (w.alloc (.cells (madeCells #[.pointer Option.none] n) t)) w.heap.size t n (fun _ => .pointer Option.none) := by
  refine ⟨_, heap_alloc_new w _, ?_, ?_⟩
  · simp [madeCells]
  · intro i hi
    have : i % 1 = 0 := Nat.mod_one i
    simp [madeCells, hi, this]

/-- The player as it is made: the lists' row first, or the elements'. -/
theorem ir_start1 (w : World) (n : Nat) : IR (((w.alloc (.cells (madeCells #[.pointer Option.none] n) 107)).alloc (.cells (madeCells #[.pointer Option.none] n) 109)).alloc (.cells #[.slice (some ⟨w.heap.size, 0, Option.none⟩) n n, .slice (some ⟨w.heap.size + 1, 0, Option.none⟩) n n] 90))
    w.heap.size (w.heap.size + 2) w.heap.size (w.heap.size + 1) n Md.init BM.none id id := by
  have r1 := row_made w 107 n
  have r2 := row_made (w.alloc (.cells (madeCells #[.pointer Option.none] n) 107)) 109 n
  have e2 : (w.alloc (.cells (madeCells #[.pointer Option.none] n) 107)).heap.size = w.heap.size + 1 := by simp
  rw [e2] at r2
  refine ⟨?_, ((r1.alloc _).alloc _).congr (fun i _ => rfl), (r2.alloc _).congr (fun i _ => rfl), BRep.none _, Rel.none _ _, fun e he => by simp [Md.init] at he, by omega, by omega, by omega, fun k hk => by rcases hk with q | q <;> exact q.elim⟩
  have := heap_alloc_new ((w.alloc (.cells (madeCells #[.pointer Option.none] n) 107)).alloc (.cells (madeCells #[.pointer Option.none] n) 109)) (.cells #[.slice (some ⟨w.heap.size, 0, Option.none⟩) n n, .slice (some ⟨w.heap.size + 1, 0, Option.none⟩) n n] 90)
  simpa using this
theorem ir_start2 (w : World) (n : Nat) : IR (((w.alloc (.cells (madeCells #[.pointer Option.none] n) 109)).alloc (.cells (madeCells #[.pointer Option.none] n) 107)).alloc (.cells #[.slice (some ⟨w.heap.size + 1, 0, Option.none⟩) n n, .slice (some ⟨w.heap.size, 0, Option.none⟩) n n] 90))
    w.heap.size (w.heap.size + 2) (w.heap.size + 1) w.heap.size n Md.init BM.none id id := by
  have r1 := row_made w 109 n
  have r2 := row_made (w.alloc (.cells (madeCells #[.pointer Option.none] n) 109)) 107 n
  have e2 : (w.alloc (.cells (madeCells #[.pointer Option.none] n) 109)).heap.size = w.heap.size + 1 := by simp
  rw [e2] at r2
  refine ⟨?_, (r2.alloc _).congr (fun i _ => rfl), ((r1.alloc _).alloc _).congr (fun i _ => rfl), BRep.none _, Rel.none _ _, fun e he => by simp [Md.init] at he, by omega, by omega, by omega, fun k hk => by rcases hk with q | q <;> exact q.elim⟩
  have := heap_alloc_new ((w.alloc (.cells (madeCells #[.pointer Option.none] n) 109)).alloc (.cells (madeCells #[.pointer Option.none] n) 107)) (.cells #[.slice (some ⟨w.heap.size + 1, 0, Option.none⟩) n n, .slice (some ⟨w.heap.size, 0, Option.none⟩) n n] 90)
  simpa using this
theorem below3 (w : World) (o1 o2 o3 : Obj) : Below w.heap.size w (((w.alloc o1).alloc o2).alloc o3) :=
  (((Below.refl _ _).alloc (Nat.le_refl _) _).alloc (by simp) _).alloc (by simp; omega) _

structure PlayAt (w : World) (cs : List Cl) (p pl pe j : Nat) (out : Value) (wr : World) : Prop where
  ir : ∃ b bl be, IR wr w.heap.size p pl pe cs.length (runFrom Md.init (cs.take j)) b bl be
  own : wr.ownsRow w.heap.size 41 5 out j ((ansFrom Md.init (cs.take j)).flatMap An.cells)
  below : Below w.heap.size w wr

/-- What the round knows of its call. -/
structure Round (w : World) (cs : List Cl) (most p pl pe j : Nat) (out : Value) (wr : World) (c : Cl) : Prop where
  at_ : PlayAt w cs p pl pe j out wr
  get : cs[j]? = some c
  perm : Permitted most (runFrom Md.init (cs.take j)) c
  wf : WF (runFrom Md.init (cs.take j))
  len : (runFrom Md.init (cs.take j)).len = j

theorem run_len : ∀ (cs : List Cl) (m : Md), (runFrom m cs).len = m.len + cs.length := by
  have hstep : ∀ (m : Md) (c : Cl), (m.step c).1.len = m.len + 1 := by
    intro m c
    have ha : ∀ (m : Md) i o, (m.answer i o).1.len = m.len := fun m i o => by cases o <;> rfl
    have hi : ∀ (m : Md) i b, (m.insert i c b).1.len = m.len := by
      intro m i b
      unfold Md.insert
      split
      · rfl
      · split
        · rw [ha]; rfl
        · rfl
    unfold Md.step
    split
    · unfold Md.change
      (repeat' split)
      · exact ha _ _ _
      · exact ha _ _ _
      · exact hi _ _ _
      · exact hi _ _ _
      · unfold Md.move Md.moveTo
        (repeat' split) <;> rfl
      · unfold Md.remove
        split
        · rfl
        · dsimp only; split <;> rfl
      · rfl
      · rfl
      · rfl
    · unfold Md.look
      (repeat' split)
      all_goals first | exact ha _ _ _ | rfl
  intro cs
  induction cs with
  | nil => intro m; rfl
  | cons c cs ih => intro m; simp only [runFrom, ih, hstep, List.length_cons]; omega

theorem PlayAt.round {w : World} {cs : List Cl} {most p pl pe j : Nat} {out : Value} {wr : World} (h : PlayAt w cs p pl pe j out wr) (hok : okFrom most Md.init cs = true) (hj : j < cs.length) : ∃ c, Round w cs most p pl pe j out wr c := by
  refine ⟨cs[j], h, List.getElem?_eq_getElem hj, ?_, ?_, ?_⟩
  · have hd : cs = cs.take j ++ cs[j] :: cs.drop (j + 1) := by rw [← List.drop_eq_getElem_cons hj, List.take_append_drop]
    rw [hd, okFrom_append] at hok
    simp only [Bool.and_eq_true, okFrom] at hok
    exact (permitted_iff _ _ _).1 hok.2.1
  · have hd : cs = cs.take j ++ cs.drop j := (List.take_append_drop _ _).symm
    rw [hd, okFrom_append] at hok
    simp only [Bool.and_eq_true] at hok
    exact WF.run _ WF.init hok.1
  · rw [run_len, List.length_take]; simp [Md.init]; omega
theorem cnt_step {most : Nat} {m : Md} {c : Cl} (hp : Permitted most m c) (hm : m.cnt ≤ most) : (m.step c).1.cnt ≤ most := by
  have ha : ∀ (m : Md) i o, (m.answer i o).1.cnt = m.cnt := fun m i o => by cases o <;> rfl
  have hi : ∀ b, (c.op = 5 ∨ c.op = 6) → (m.grow.insert m.len c b).1.cnt ≤ most := by
    intro b hop
    have := hp.space (by omega)
    unfold Md.insert
    split
    · exact hm
    · split
      · rw [ha]; exact this
      · exact hm
  unfold Md.step
  split
  · unfold Md.change
    split
    · rw [ha]; exact hp.space (by omega)
    split
    · rw [ha]; exact hp.space (by omega)
    split
    · exact hi 0 (by omega)
    split
    · exact hi 1 (by omega)
    split
    · unfold Md.move Md.moveTo
      (repeat' split) <;> exact hm
    split
    · unfold Md.remove
      split
      · exact hm
      · dsimp only; split <;> exact hm
    split
    · exact hp.room (by omega)
    split
    · exact hm
    · exact hm
  · unfold Md.look
    split
    · exact hm
    split
    · rw [ha]; exact hp.space (by omega)
    split
    · rw [ha]; exact hm
    split
    · rw [ha]; exact hm
    split
    · exact hm
    split
    · exact hm
    split
    · rw [ha]; exact hm
    split
    · rw [ha]; exact hm
    split
    · exact hm
    split
    · exact hm
    · exact hm
theorem cnt_run {most : Nat} : ∀ (cs : List Cl) (m : Md), okFrom most m cs = true → m.cnt ≤ most → (runFrom m cs).cnt ≤ most
  | [], _, _, h => h
  | c :: cs, m, ho, h => by
    simp only [okFrom, Bool.and_eq_true] at ho
    exact cnt_run cs _ ho.2 (cnt_step ((permitted_iff _ _ _).1 ho.1) h)
theorem ok_take {most : Nat} {cs : List Cl} (h : okFrom most Md.init cs = true) (j : Nat) : okFrom most Md.init (cs.take j) = true := by
  rw [← List.take_append_drop j cs, okFrom_append] at h
  simp only [Bool.and_eq_true] at h
  exact h.1

theorem own_touch {B B' : Nat} {w w' : World} {out : Value} {n : Nat} {xs : List Value} (h : w.ownsRow B' 41 5 out n xs) (ht : Touch B w w') : w'.ownsRow B' 41 5 out n xs := by
  refine ⟨h.1, ?_⟩
  rcases h.2 with q | ⟨g, cap, cur, h1, h2, h3, h4⟩
  · exact .inl q
  · exact .inr ⟨g, cap, cur, h1, h2, ht.block h3 (by decide) (by decide) (by decide) (by decide), h4⟩

/-- After the step and the append. -/
theorem Round.next {w : World} {cs : List Cl} {most p pl pe j : Nat} {out out' : Value} {wr w1 w2 : World} {c : Cl} (h : Round w cs most p pl pe j out wr c) (hcl : j < cs.length)
    (hI : ∃ b bl be, IR w1 w.heap.size p pl pe cs.length ((runFrom Md.init (cs.take j)).step c).1 b bl be) (hb : Below w.heap.size w w1) (o : Obj)
    (hown : w2.ownsRow w.heap.size 41 5 out' (j + 1) ((ansFrom Md.init (cs.take j)).flatMap An.cells ++ ((runFrom Md.init (cs.take j)).step c).2.cells))
    (hg : (w1.alloc o).grownBy w2 out.ownBlock) (ho : (w1.alloc o).ownsRow w.heap.size 41 5 out j ((ansFrom Md.init (cs.take j)).flatMap An.cells)) : PlayAt w cs p pl pe (j + 1) out' w2 := by
  have e1 : cs.take (j + 1) = cs.take j ++ [c] := by
    have := (List.getElem?_eq_some_iff.1 h.get).2
    rw [List.take_succ_eq_append_getElem hcl, this]
  have hsz : w.heap.size ≤ (w1.alloc o).heap.size := by have := hb.size; simp; omega
  refine ⟨?_, ?_, ((hb.alloc (by have := hb.size; omega) o).grown hg hsz (fun k q => (ho.lt k q).1))⟩
  · obtain ⟨b, bl, be, hI⟩ := hI
    refine ⟨b, bl, be, ?_⟩
    rw [e1, runFrom_append]
    have hI2 := hI.alloc o
    refine hI2.of_blocks (fun k q => hg.block k (hI2.size_lt q) ?_) (fun k c' q => (hg.block k (Array.getElem?_eq_some_iff.1 q).1 ?_).trans q)
    · intro r
      rcases ho.2 with ⟨rfl, _⟩ | ⟨g, cap, cur, rfl, _, hgg, _⟩
      · simp [Value.ownBlock] at r
      · simp [Value.ownBlock] at r; subst r
        rcases q with q | q | q | q
        · have := hI2.pc; rw [← q, hgg] at this; simp at this
        · obtain ⟨d, hd, _⟩ := hI2.lrow; rw [← q, hgg] at hd; simp at hd
        · obtain ⟨d, hd, _⟩ := hI2.erow; rw [← q, hgg] at hd; simp at hd
        · exact hI2.rep.typed hgg (by decide) (by decide) q
    · intro r
      rcases ho.2 with ⟨rfl, _⟩ | ⟨g, cap, cur, rfl, _, hgg, _⟩
      · simp [Value.ownBlock] at r
      · simp [Value.ownBlock] at r; subst r
        rw [hgg] at q; simp at q
  · rw [e1, ansFrom_append, List.flatMap_append]
    simpa [ansFrom] using hown

set_option maxHeartbeats 1000000 in
theorem play_c {w : World} {v : Value} {cs : List Cl} {most : Nat} (hs : Sl w v cs.length (cs.flatMap Cl.cells)) (hne : cs ≠ []) (hv : ∀ c ∈ cs, c.v.ok) (hok : okFrom most Md.init cs = true) (hmost : most < 2305843009213693952) (hlen : cs.length ≤ 1099511627776) :
    Calls Try.prog 11 #[v] w fun r w' => ∃ out, r = .returned out ∧ w'.ownsRow w.heap.size 41 5 out cs.length ((ansFrom Md.init cs).flatMap An.cells) ∧ Below w.heap.size w w' := by
  obtain ⟨b, off, cap, rfl, hcell⟩ := hs.elem Cl.cells_length (by decide) hne
  have mk1 := run_make_row' (P := Try.prog) 87 107 (.pointer none) 8 Try.underlying87 Try.infopList rfl .i64 .i64 cs.length (by omega) (by omega)
  have mk2 := run_make_row' (P := Try.prog) 88 109 (.pointer none) 8 Try.underlying88 Try.infopElem rfl .i64 .i64 cs.length (by omega) (by omega)
  have HC := Lib.hid hcell; have HV := Lib.hid hv; have HO := Lib.hid hok
  have HL := Lib.hid hlen; have HS := Lib.hid hs
  clear hcell hv hok hs
  go_enter Try.func11, Try.ntmps11
  go_wp2
  go_region
  all_goals
    generalize hp : w.heap.size + 1 + 1 = p
    have HP := Lib.hid hp
    clear hp
    go_wp2_with fail
    go_loopg [4, 17] cs.length (fun n out k wr => ∃ j pl pe, j + n = cs.length ∧ k = .int .i64 j ∧ PlayAt w cs p pl pe j out wr)
    case atStart =>
      have := HP.out
      subst this
      first
        | exact ⟨0, _, _, by omega, rfl, ⟨_, _, _, (ir_start1 w cs.length).drew⟩, World.ownsRow_nil _ _ _ _, (below3 w _ _ _).drew⟩
        | exact ⟨0, _, _, by omega, rfl, ⟨_, _, _, (ir_start2 w cs.length).drew⟩, World.ownsRow_nil _ _ _ _, (below3 w _ _ _).drew⟩
    case round =>
      clear mk1 mk2
      obtain ⟨j, pl, pe, hj, rfl, hP⟩ := hrel
      by_cases hk0 : gk = 0
      · subst hk0
        obtain rfl : j = cs.length := by omega
        have FIN : Hid (wr.ownsRow w.heap.size 41 5 u4 cs.length ((ansFrom Md.init cs).flatMap An.cells) ∧ Below w.heap.size w wr) := by
          have := hP.own
          rw [List.take_length] at this
          exact ⟨this, hP.below⟩
        clear hP hj HC HV HO HL HS
        go_wp2
        go_ret
        exact ⟨_, rfl, FIN.out⟩
      · have hjl : j < cs.length := by omega
        obtain ⟨c, hR⟩ := hP.round HO.out hjl
        have hbw : b < w.heap.size := World.block_lt_of_cell? w ⟨b, off + (j * 8 + 0), none⟩ (HC.out j c hR.get 0 _ rfl)
        have cc : ∀ t y, c.cells[t]? = some y → wr.cell? ⟨b, off + j * 8 + t, none⟩ = some y := fun t y hy => by
          rw [hP.below.cell (p := ⟨b, off + j * 8 + t, none⟩) hbw, Nat.add_assoc]; exact HC.out j c hR.get t y hy
        have e0 := cc 0 _ rfl; have e1 := cc 1 _ rfl; have e2 := cc 2 _ rfl; have e3 := cc 3 _ rfl; have e4 := cc 4 _ rfl; have e5 := cc 5 _ rfl; have e6 := cc 6 _ rfl; have e7 := cc 7 _ rfl
        simp only [Nat.add_zero] at e0
        have HR := Lib.hid hR; have HJ := Lib.hid hj
        clear cc hR hP hj hbw
        obtain ⟨bm, bl, be, hI⟩ := HR.out.at_.ir
        have HI := Lib.hid hI; clear hI
        have hlenm := HR.out.len
        have hmlt : (runFrom Md.init (cs.take j)).len < cs.length := by omega
        have hcnt : (runFrom Md.init (cs.take j)).cnt < 2305843009213693952 := by
          have := cnt_run (cs.take j) Md.init (ok_take HO.out j) (by simp [Md.init])
          omega
        have hvc : c.v.ok := HV.out c (List.mem_of_getElem? HR.out.get)
        by_cases h3 : 3 ≤ c.op
        · by_cases h14 : c.op ≤ 14
          · go_wp2_with fail
            rw [← hlenm]
            refine (change_step (bl := bl) (HI.out.alloc _) HR.out.wf HR.out.perm hmlt (by omega) hcnt hvc h3 h14).mono ?_
            rintro r w' ⟨rfl, hI2, hT⟩
            have hO2 := own_touch (HR.out.at_.own.alloc _) hT
            have hB2 := ((HR.out.at_.below.alloc HR.out.at_.below.size _)).trans (hT.below (by have := HR.out.at_.below.size; simp; omega))
            have HI2 := Lib.hid hI2; have HO2 := Lib.hid hO2; have HB2 := Lib.hid hB2
            have hsz := hB2.size
            clear hI2 hO2 hB2 hT
            generalize ha : (Md.step _ _).2 = a at *
            have HA := Lib.hid ha; clear ha
            unfold An.agg
            go_wp2_with (at_builtin; refine wpList_app rfl (.tmp 30) (.tmp 35) 24 rfl w.heap.size 41 _ 5 48 Try.underlying24 Try.infoAnswer rfl (by decide) _ j _ rfl (HO2.out.alloc _) _ 1 a.cells rfl (sl_new w' _ _ _ _) rfl (by simp [An.cells, Value.oneCell']) (.inr (.inr (by decide))) (by have := HL.out; omega) (by decide) (by simp; omega) ?_; intro v' w2 hown2 hg2; have N2 := Lib.hid (HR.out.next hjl HI2.out HB2.out _ (by rw [HA.out]; exact hown2) hg2 (HO2.out.alloc _)); clear hown2 hg2)
            go_roundg (gk - 1)
            case measure => omega
            case rel => exact ⟨j + 1, pl, pe, by have := HJ.out; omega, by go_num, N2.out⟩
          · have hno : ¬ (3 ≤ c.op ∧ c.op ≤ 14) := fun q => h14 q.2
            go_wp2_with fail
            rw [← hlenm]
            refine (look_step (bl := bl) (HI.out.alloc _) HR.out.wf HR.out.perm hmlt (by omega) hcnt hvc hno).mono ?_
            rintro r w' ⟨rfl, hI2, hT⟩
            have hO2 := own_touch (HR.out.at_.own.alloc _) hT
            have hB2 := ((HR.out.at_.below.alloc HR.out.at_.below.size _)).trans (hT.below (by have := HR.out.at_.below.size; simp; omega))
            have HI2 := Lib.hid hI2; have HO2 := Lib.hid hO2; have HB2 := Lib.hid hB2
            have hsz := hB2.size
            clear hI2 hO2 hB2 hT
            generalize ha : (Md.step _ _).2 = a at *
            have HA := Lib.hid ha; clear ha
            unfold An.agg
            go_wp2_with (at_builtin; refine wpList_app rfl (.tmp 37) (.tmp 42) 24 rfl w.heap.size 41 _ 5 48 Try.underlying24 Try.infoAnswer rfl (by decide) _ j _ rfl (HO2.out.alloc _) _ 1 a.cells rfl (sl_new w' _ _ _ _) rfl (by simp [An.cells, Value.oneCell']) (.inr (.inr (by decide))) (by have := HL.out; omega) (by decide) (by simp; omega) ?_; intro v' w2 hown2 hg2; have N2 := Lib.hid (HR.out.next hjl HI2.out HB2.out _ (by rw [HA.out]; exact hown2) hg2 (HO2.out.alloc _)); clear hown2 hg2)
            go_roundg (gk - 1)
            case measure => omega
            case rel => exact ⟨j + 1, pl, pe, by have := HJ.out; omega, by go_num, N2.out⟩
        · have hno : ¬ (3 ≤ c.op ∧ c.op ≤ 14) := fun q => h3 q.1
          have hd : decide (3 ≤ c.op) = false := by simpa using h3
          go_wp2_with fail
          rw [← hlenm]
          refine (look_step (bl := bl) (HI.out.alloc _) HR.out.wf HR.out.perm hmlt (by omega) hcnt hvc hno).mono ?_
          rintro r w' ⟨rfl, hI2, hT⟩
          have hO2 := own_touch (HR.out.at_.own.alloc _) hT
          have hB2 := ((HR.out.at_.below.alloc HR.out.at_.below.size _)).trans (hT.below (by have := HR.out.at_.below.size; simp; omega))
          have HI2 := Lib.hid hI2; have HO2 := Lib.hid hO2; have HB2 := Lib.hid hB2
          have hsz := hB2.size
          clear hI2 hO2 hB2 hT
          generalize ha : (Md.step _ _).2 = a at *
          have HA := Lib.hid ha; clear ha
          unfold An.agg
          go_wp2_with (at_builtin; refine wpList_app rfl (.tmp 37) (.tmp 42) 24 rfl w.heap.size 41 _ 5 48 Try.underlying24 Try.infoAnswer rfl (by decide) _ j _ rfl (HO2.out.alloc _) _ 1 a.cells rfl (sl_new w' _ _ _ _) rfl (by simp [An.cells, Value.oneCell']) (.inr (.inr (by decide))) (by have := HL.out; omega) (by decide) (by simp; omega) ?_; intro v' w2 hown2 hg2; have N2 := Lib.hid (HR.out.next hjl HI2.out HB2.out _ (by rw [HA.out]; exact hown2) hg2 (HO2.out.alloc _)); clear hown2 hg2)
          go_roundg (gk - 1)
          case measure => omega
          case rel => exact ⟨j + 1, pl, pe, by have := HJ.out; omega, by go_num, N2.out⟩
end Bead
end Go.Proofs.Ytidnmanljdadaaa
