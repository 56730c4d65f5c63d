/- FnApart returns true: a script of at most 2^20 calls. -/
import Derived.Test.YtidnmanljdadaaaScene
import Derived.Test.YtidnmanljdadaaaSortShelf
set_option linter.all false
namespace Go.Proofs.Ytidnmanljdadaaa
open Go.RowKit
namespace Bead
set_option maxRecDepth 100000

/-- The numbers of the elements of some lists. -/
def allNames (M : Md) (Ls : List Nat) : List Nat := Ls.flatMap fun l => M.names (M.seq l)
theorem allNames_snoc {M : Md} {Ls : List Nat} {j l : Nat} (h : Ls[j]? = some l) : allNames M (Ls.take (j + 1)) = allNames M (Ls.take j) ++ M.names (M.seq l) := by
  obtain ⟨hj, e⟩ := List.getElem?_eq_some_iff.1 h
  unfold allNames
  rw [List.take_succ_eq_append_getElem hj, List.flatMap_append, e]; simp
theorem name_eq {M : Md} {S : List Nat} {e i : Nat} (h : M.fst e = some i) : M.name S e = i := by unfold Md.name; rw [h]; rfl
theorem names_nodup {M : Md} (hw : WF M) (hn : ∀ k e, e ∈ M.seq k → ∃ i, M.fst e = some i) : ∀ Ls : List Nat, Ls.Nodup → (allNames M Ls).Nodup
  | [], _ => by simp [allNames]
  | l :: r, hd => by
    have e : allNames M (l :: r) = M.names (M.seq l) ++ allNames M r := rfl
    rw [e, List.nodup_append]
    have inj : ∀ k k' x y, x ∈ M.seq k → y ∈ M.seq k' → M.name (M.seq k) x = M.name (M.seq k') y → x = y := by
      intro k k' x y hx hy q
      obtain ⟨i, hi⟩ := hn k x hx
      obtain ⟨i', hi'⟩ := hn k' y hy
      rw [name_eq hi, name_eq hi'] at q
      subst q
      have h1 := (hw.fst1 x i hi).1
      have h2 := (hw.fst1 y i hi').1
      rw [h1] at h2
      simpa using h2
    obtain ⟨hl, hr⟩ := List.nodup_cons.1 hd
    refine ⟨?_, names_nodup hw hn r hr, ?_⟩
    · unfold Md.names
      rw [List.nodup_iff_pairwise_ne, List.pairwise_map]
      exact (List.nodup_iff_pairwise_ne.1 (hw.nodup l)).imp_of_mem (fun {a b} ha hb hab q => hab (inj l l a b ha hb q))
    · intro a ha b hb q
      subst q
      simp only [Md.names, List.mem_map] at ha
      obtain ⟨x, hx, rfl⟩ := ha
      simp only [allNames, List.mem_flatMap, Md.names, List.mem_map] at hb
      obtain ⟨k, hk, y, hy, q⟩ := hb
      have := inj k l y x hy hx q
      subst this
      have h1 := (hw.mem l y).1 hx
      have h2 := (hw.mem k y).1 hy
      rw [h1] at h2
      simp at h2
      subst h2
      exact hl hk
theorem listsAt_ge : ∀ (cs : List Cl) (k : Nat), ∀ x ∈ listsAt k cs, k ≤ x
  | [], k, x, h => by simp [listsAt] at h
  | c :: r, k, x, h => by
    simp only [listsAt] at h
    split at h
    · rcases List.mem_cons.1 h with q | q
      · omega
      · have := listsAt_ge r (k + 1) x q; omega
    · have := listsAt_ge r (k + 1) x h; omega
theorem listsAt_nodup : ∀ (cs : List Cl) (k : Nat), (listsAt k cs).Nodup
  | [], k => by simp [listsAt]
  | c :: r, k => by
    simp only [listsAt]
    split
    · rw [List.nodup_cons]
      exact ⟨fun q => by have := listsAt_ge r (k + 1) k q; omega, listsAt_nodup r (k + 1)⟩
    · exact listsAt_nodup r (k + 1)

/-- The row, so far. -/
structure ApAt (w wr : World) (M : Md) (Ls : List Nat) (j : Nat) (v : Value) : Prop where
  own : wr.ownsRow w.heap.size 3 1 v (allNames M (Ls.take j)).length (ints (allNames M (Ls.take j)))
  below : Below w.heap.size w wr
theorem ApAt.next {w wr w1 w2 : World} {M : Md} {Ls : List Nat} {j l : Nat} {v v' : Value} (h : ApAt w wr M Ls j v) (hl : Ls[j]? = some l) (hb : Below wr.heap.size wr w1)
    (hown : w2.ownsRow w.heap.size 3 1 v' ((allNames M (Ls.take j)).length + (M.seq l).length) (ints (allNames M (Ls.take j)) ++ ints (M.names (M.seq l)))) (hg : w1.grownBy w2 v.ownBlock) : ApAt w w2 M Ls (j + 1) v' := by
  refine ⟨?_, below_grown (h.below.trans (hb.mono h.below.size)) (own_below h.own hb) (Nat.le_refl _) hg⟩
  rw [allNames_snoc hl, List.length_append, names_length]
  have e : ints (allNames M (Ls.take j) ++ M.names (M.seq l)) = ints (allNames M (Ls.take j)) ++ ints (M.names (M.seq l)) := by simp [ints]
  rw [e]; exact hown
theorem allNames_le {M : Md} {most : Nat} (h : ∀ l, (M.seq l).length ≤ most) : ∀ Ls : List Nat, (allNames M Ls).length ≤ Ls.length * most
  | [] => by simp [allNames]
  | l :: r => by
    have e : allNames M (l :: r) = M.names (M.seq l) ++ allNames M r := rfl
    have := allNames_le h r
    have := h l
    rw [e, List.length_append, names_length, List.length_cons, Nat.add_mul]
    omega

set_option maxHeartbeats 16000000 in
theorem apart_c {w : World} {v : Value} {cs : List Cl} (s : Scr w v cs) (hn : cs.length ≤ 1048576) :
    Calls Try.prog 5 #[v] w fun r w' => r = .returned (.bool true) ∧ Below w.heap.size w w' := by
  have PM := Lib.hid (permittedL_c s.sl (by omega))
  have S := Lib.hid s
  clear s
  go_enter Try.func5, Try.ntmps5
  go_wp2_with fail
  refine PM.out.mono ?_
  rintro r w1 ⟨rfl, hb1⟩
  have B1 := Lib.hid hb1
  clear hb1 PM
  cases hok : okFrom 500 Md.init cs with
  | false =>
    clear hok
    go_wp2
    go_ret
    exact ⟨rfl, B1.out⟩
  | true =>
    have NM := Lib.hid (named_c (S.out.later B1.out) hok hn)
    have HOK := Lib.hid hok
    clear hok
    go_wp2_with fail
    refine NM.out.mono ?_
    rintro r w2 ⟨vs, rfl, s2, hb2⟩
    have B2 := Lib.hid (B1.out.trans (hb2.mono B1.out.size))
    have SN : Hid (∀ l ∈ listsOf (namedC cs), Scened (namedC cs) l) := fun l hl => named_scene HOK.out hn (by rw [← named_lists]; exact hl)
    have hln : (namedC cs).length ≤ 600000000 ∨ listsOf (namedC cs) = [] := by
      rcases q : listsOf (namedC cs) with _ | ⟨a, b⟩
      · exact .inr rfl
      · exact .inl (SN.out a (by rw [q]; simp)).len
    have hln2 : (namedC cs).length ≤ 600000000 := by
      rcases hln with q | q
      · exact q
      · have : namedC cs = cs := by unfold namedC; rw [← named_lists, q]; simp [Md.tour]
        rw [this]; omega
    generalize hns : namedC cs = ns at *
    clear hns hln
    have hll : (listsOf ns).length ≤ ns.length := listsAt_length ns 0
    have hseq : ∀ l, l ∈ listsOf ns → ∀ k, ((runFrom Md.init ns).seq k).length ≤ 500 := fun l hl k => by
      have sc := SN.out l hl
      have := sc.wf.seq_le k
      have := run_cnt_le _ sc.ok (by simp [Md.init])
      omega
    have ND : Hid ((allNames (runFrom Md.init ns) (listsOf ns)).Nodup ∧ (∀ j, (allNames (runFrom Md.init ns) ((listsOf ns).take j)).length ≤ 300000000000) ∧ ∀ l, l ∈ listsOf ns → ((runFrom Md.init ns).seq l).length ≤ 500) := by
      refine ⟨?_, fun j => ?_, fun l hl => hseq l hl l⟩
      · rcases q : listsOf ns with _ | ⟨a, b⟩
        · simp [allNames]
        · have sc := SN.out a (by rw [q]; simp)
          rw [← q]
          exact names_nodup sc.wf sc.named _ (listsAt_nodup ns 0)
      · rcases q : listsOf ns with _ | ⟨a, b⟩
        · simp [allNames]
        · rw [← q]
          have h1 := allNames_le (most := 500) (hseq a (by rw [q]; simp)) ((listsOf ns).take j)
          have h2 : ((listsOf ns).take j).length ≤ (listsOf ns).length := by rw [List.length_take]; omega
          have h3 := Nat.mul_le_mul_right 500 h2
          omega
    clear hseq
    have LS := Lib.hid (lists_c s2 (by omega))
    have S2 := Lib.hid s2
    clear s2 hb2 NM
    go_wp2_with fail
    refine LS.out.mono ?_
    rintro r w3 ⟨vl, rfl, rl, hb3⟩
    have B3 := Lib.hid (B2.out.trans (hb3.mono B2.out.size))
    have S3 := Lib.hid (S2.out.later hb3)
    have NT : Hid (Nats w3 vl (listsOf ns)) := Nats.of_own rl
    obtain ⟨x1, x2, rfl⟩ := own_len rl
    obtain ⟨y1, y2, rfl⟩ := S2.out.form
    clear hb3 rl LS
    go_wp2_with fail
    go_loopg [3, 4, 19] (listsOf ns).length (fun n o v k wr => ∃ j, j + n = (listsOf ns).length ∧ o = .bool true ∧ k = .int .i64 j ∧ ApAt w3 wr (runFrom Md.init ns) (listsOf ns) j v)
    case atStart => exact ⟨0, by omega, rfl, rfl, World.ownsRow_nil _ _ _ _, Below.refl _ _⟩
    case round =>
      obtain ⟨j, hj, rfl, rfl, hA⟩ := hrel
      have HA := Lib.hid hA
      have szr := hA.below.size
      obtain ⟨u1, u2, rfl⟩ := own_len hA.own
      by_cases hk0 : gk = 0
      · subst hk0
        obtain rfl : (listsOf ns).length = j := by omega
        have own := hA.own
        rw [List.take_length] at own
        have hE : (allNames (runFrom Md.init ns) (listsOf ns)).length ≤ 1099511627776 := by
          have := ND.out.2.1 (listsOf ns).length
          rw [List.take_length] at this
          omega
        have e0 : allNames (runFrom Md.init ns) ((listsOf ns).take (listsOf ns).length) = allNames (runFrom Md.init ns) (listsOf ns) := by rw [List.take_length]
        rw [e0] at *
        generalize hEq : allNames (runFrom Md.init ns) (listsOf ns) = E at *
        have SO := Lib.hid (sortInt_c own rfl hE)
        have F := Lib.hid (B3.out.trans (hA.below.mono B3.out.size))
        have own0 := own
        clear hA hj HA own e0 hEq
        go_wp2_with fail
        refine SO.out.mono ?_
        rintro r w5 ⟨rfl, ⟨L', hp, ho⟩, hk⟩
        have OL := Lib.hid own0
        have F5 := Lib.hid (F.out.trans (hk.below (fun k hk _ q => by have := (OL.out.lt k q).1; have := B3.out.size; omega) F.out.size))
        have CO := Lib.hid (compactInt_c ho hp.length_eq (hp.nodup_iff.2 ND.out.1) hE)
        have HO := Lib.hid ho
        clear SO hp ho hk own0
        go_wp2_with fail
        refine CO.out.mono ?_
        rintro r w6 ⟨⟨ca, cc, rfl⟩, hk⟩
        have F6 := Lib.hid (F5.out.trans (hk.below (fun k hk _ q => by have := (HO.out.lt k q).1; have := B3.out.size; omega) F5.out.size))
        clear hk CO HO
        go_wp2
        go_ret
        exact ⟨rfl, F6.out⟩
      · have hjl : j < (listsOf ns).length := by omega
        obtain ⟨l, hl⟩ : ∃ l, (listsOf ns)[j]? = some l := ⟨_, List.getElem?_eq_getElem hjl⟩
        obtain ⟨b1, o1, p1, hv1, cell1⟩ := (NT.out.later hA.below).cells (by intro q; rw [q] at hl; simp at hl)
        simp only [Value.slice.injEq] at hv1
        obtain ⟨rfl, hz1, rfl⟩ := hv1
        clear hz1
        have e1 := cell1 j l hl
        have SC := Lib.hid (SN.out l (List.mem_of_getElem? hl))
        have FW := Lib.hid (forward_c (S3.out.later hA.below) SC.out.ok SC.out.lst (by decide) (by omega))
        have HJ := Lib.hid hj; have HL := Lib.hid hl
        have hle := ND.out.2.2 l (List.mem_of_getElem? hl)
        have hbd := ND.out.2.1 j
        clear hA hl hj cell1
        go_wp2_with fail
        refine FW.out.mono ?_
        rintro r w4 ⟨v2, v3, rfl, _, o4, hb4⟩
        have HB := Lib.hid hb4
        have OW := Lib.hid (own_below HA.out.own hb4)
        have szb := hb4.size
        obtain ⟨z1, z2, rfl⟩ := own_len o4
        have SL4 : Hid (Sl w4 (.slice z1 ((runFrom Md.init ns).seq l).length z2) ((runFrom Md.init ns).seq l).length (ints ((runFrom Md.init ns).names ((runFrom Md.init ns).seq l)))) := Sl.of_own o4
        have CP : Hid ((Value.slice z1 ((runFrom Md.init ns).seq l).length z2) = .slice none ((runFrom Md.init ns).seq l).length 0 ∨ (Value.slice z1 ((runFrom Md.init ns).seq l).length z2).ownBlock ≠ none ∨ ((runFrom Md.init ns).seq l).length ≠ 0) := fair_cap (own_fair o4) ⟨_, _, rfl⟩
        clear hb4 o4 FW e1
        go_wp2_with (at_builtin; refine wpList_app2 rfl (.tmp 34) (.tmp 35) 27 rfl w3.heap.size 3 _ 1 8 Try.underlying27 Try.infoInt rfl (by decide) _ _ _ rfl OW.out _ ((runFrom Md.init ns).seq l).length (ints ((runFrom Md.init ns).names ((runFrom Md.init ns).seq l))) rfl SL4.out (by rw [ints_length, names_length]; simp) (ints_one _) CP.out (by omega) (by decide) (by omega) ?_; intro v' w5 hown hg hnn; have N2 := Lib.hid (HA.out.next HL.out HB.out hown hg); clear hown hg hnn)
        go_roundg (gk - 1)
        case measure => omega
        case rel => exact ⟨j + 1, by have := HJ.out; omega, rfl, by go_num, N2.out⟩
end Bead
end Go.Proofs.Ytidnmanljdadaaa
