/- The contracts of laws.defined and laws.permitted: what the reference says of a script. -/
import Derived.Test.YtidnmanljdadaaaSpec16
set_option linter.all false
namespace Go.Proofs.Ytidnmanljdadaaa
open Go.RowKit
namespace Bead
set_option maxRecDepth 100000

theorem Try.infoSCall : (Try.prog.info? 79).map (fun i => (i.zero, i.size, i.bytes)) = some (some (.agg #[.int .i64 0, .int .i64 0, .int .i64 0, .int .i64 0, .int .i64 0, .int .i64 0, .int .i64 0, .string ⟨#[]⟩]), 8, 72) := by kernel_rfl

theorem sl_at' (w : World) (l : List Value) (t : TypeId) (n cap k : Nat) (hk : w.heap.size = k) : Sl (w.alloc (.cells l.toArray t)) (.slice (some ⟨k, 0, Option.none⟩) n cap) n l := by
  subst hk; exact sl_new w l t n cap
theorem own_base {w : World} {B B' : Nat} {e : TypeId} {sz n : Nat} {v : Value} {xs : List Value} (h : w.ownsRow B e sz v n xs) (hB : B' ≤ B) : w.ownsRow B' e sz v n xs := by
  refine ⟨h.1, ?_⟩
  rcases h.2 with q | ⟨g, cap, cur, h1, h2, h3⟩
  · exact .inl q
  · exact .inr ⟨g, cap, cur, h1, Nat.le_trans hB h2, h3⟩

/-- What laws.defined returns. -/
def Defd (w : World) (cs : List Cl) (r : Ending) (w' : World) : Prop :=
  Below w.heap.size w w' ∧ ((okFrom 500 Md.init cs = true ∧ ∃ a o, r = .returned (.tuple #[a, o, .bool true]) ∧ w'.ownsRow w.heap.size 41 5 a cs.length ((ansFrom Md.init cs).flatMap An.cells) ∧ w'.ownsRow w.heap.size 4 1 o cs.length (bools (openFrom Md.init cs))) ∨
    (okFrom 500 Md.init cs = false ∧ r = .returned (.tuple #[.slice none 0 0, .slice none 0 0, .bool false])))

structure D1At (w wr : World) (cs : List Cl) (j : Nat) (l : Value) : Prop where
  own : wr.ownsRow w.heap.size 79 8 l j ((cs.take j).flatMap Cl.cells)
  below : Below w.heap.size w wr
structure D2At (w wr : World) (A : List An) (O : List Bool) (j : Nat) (out opn ans : Value) : Prop where
  rowA : wr.ownsRow w.heap.size 84 5 out A.length (A.flatMap An.cells)
  rowO : wr.ownsRow w.heap.size 4 1 opn A.length (bools O)
  own : wr.ownsRow w.heap.size 41 5 ans j ((A.take j).flatMap An.cells)
  below : Below w.heap.size w wr

theorem below_alloc2 {w wr : World} (h : Below w.heap.size w wr) (o o' : Obj) : Below w.heap.size w ((wr.alloc o).alloc o') := (h.alloc h.size o).alloc (by have := h.size; simp; omega) o'
theorem flat_snoc {α : Type} {f : α → List Value} {l : List α} {j : Nat} {x : α} (h : l[j]? = some x) : (l.take (j + 1)).flatMap f = (l.take j).flatMap f ++ f x := by
  have q := List.getElem?_eq_some_iff.1 h
  rw [List.take_succ_eq_append_getElem q.1, q.2, List.flatMap_append, List.flatMap_cons, List.flatMap_nil, List.append_nil]
theorem D1At.next {w wr w2 : World} {cs : List Cl} {j : Nat} {l v' : Value} {c : Cl} {o o' : Obj} (h : D1At w wr cs j l) (hc : cs[j]? = some c) (hown : w2.ownsRow w.heap.size 79 8 v' (j + 1) ((cs.take j).flatMap Cl.cells ++ c.cells)) (hg : ((wr.alloc o).alloc o').grownBy w2 l.ownBlock) : D1At w w2 cs (j + 1) v' :=
  ⟨by rw [flat_snoc hc]; exact hown, below_grown (below_alloc2 h.below o o') ((h.own.alloc o).alloc o') (Nat.le_refl _) hg⟩
theorem D2At.next {w wr w2 : World} {A : List An} {O : List Bool} {j : Nat} {out opn ans v' : Value} {x : An} {o o' : Obj} (h : D2At w wr A O j out opn ans) (hc : A[j]? = some x) (hown : w2.ownsRow w.heap.size 41 5 v' (j + 1) ((A.take j).flatMap An.cells ++ x.cells)) (hg : ((wr.alloc o).alloc o').grownBy w2 ans.ownBlock) : D2At w w2 A O (j + 1) out opn v' :=
  ⟨own_grown ((h.rowA.alloc o).alloc o') ((h.own.alloc o).alloc o') (by decide) hg, own_grown ((h.rowO.alloc o).alloc o') ((h.own.alloc o).alloc o') (by decide) hg, by rw [flat_snoc hc]; exact hown, below_grown (below_alloc2 h.below o o') ((h.own.alloc o).alloc o') (Nat.le_refl _) hg⟩

set_option maxHeartbeats 2000000 in
theorem defined_c {w : World} {v : Value} {cs : List Cl} (hs : Sl w v cs.length (cs.flatMap Cl.cells)) (hlen : cs.length ≤ 1099511627776) :
    Calls Try.prog 9 #[v] w (Defd w cs) := by
  have HSL := Lib.hid hs
  obtain ⟨sa, scap, rfl, _⟩ := hs
  go_enter Try.func9, Try.ntmps9
  go_wp2_with fail
  go_loopg [5, 13] cs.length (fun n l k wr => ∃ j, j + n = cs.length ∧ k = .int .i64 j ∧ D1At w wr cs j l)
  case atStart => exact ⟨0, by omega, rfl, World.ownsRow_nil _ _ _ _, Below.refl _ _⟩
  case round =>
    obtain ⟨j, hj, rfl, hP⟩ := hrel
    by_cases hk0 : gk = 0
    · subst hk0
      obtain rfl : j = cs.length := by omega
      have hown := hP.own
      rw [List.take_length] at hown
      have SPL := Lib.hid (splay_c (Sl.of_own hown) hlen)
      have BL := Lib.hid hP.below
      have sz1 := hP.below.size
      clear hP hj HSL hown
      go_wp2_with fail
      refine SPL.out.mono ?_
      rintro r w1 ⟨hb1, hcase⟩
      have B1 := Lib.hid (BL.out.trans (hb1.mono BL.out.size))
      clear hb1 SPL
      rcases hcase with ⟨hok, a, o, rfl, ra, ro⟩ | ⟨hok, rfl⟩
      · have la : (ansFrom Md.init cs).length = cs.length := ansFrom_length cs Md.init
        have D0 : Hid (D2At w w1 (ansFrom Md.init cs) (openFrom Md.init cs) 0 a o (.slice none 0 0)) := ⟨by rw [la]; exact own_base ra sz1, by rw [la]; exact own_base ro sz1, World.ownsRow_nil _ _ _ _, B1.out⟩
        obtain ⟨a1, a2, rfl⟩ := own_len ra
        obtain ⟨o1, o2, rfl⟩ := own_len ro
        have HOK := Lib.hid hok; have LA := Lib.hid la
        clear ra ro B1 BL hok la
        generalize hA : ansFrom Md.init cs = A at *
        generalize hO : openFrom Md.init cs = O at *
        have HA := Lib.hid hA; have HO := Lib.hid hO
        clear hA hO
        go_wp2_with fail
        go_loopg [2, 42] cs.length (fun n ans k wr => ∃ j, j + n = cs.length ∧ k = .int .i64 j ∧ D2At w wr A O j (.slice a1 cs.length a2) (.slice o1 cs.length o2) ans)
        case atStart => exact ⟨0, by omega, rfl, D0.out⟩
        case round =>
          clear D0
          obtain ⟨j, hj, rfl, hP⟩ := hrel
          by_cases hk0 : gk = 0
          · subst hk0
            obtain rfl : j = cs.length := by omega
            have FIN : Hid (Defd w cs (.returned (.tuple #[u2, .slice o1 cs.length o2, .bool true])) wr) := by
              have q := hP.own
              have l1 : A.length = cs.length := LA.out
              have q2 := hP.rowO
              rw [← l1, List.take_length] at q
              rw [l1] at q q2
              exact ⟨hP.below, .inl ⟨HOK.out, _, _, rfl, by rw [HA.out]; exact q, by rw [HO.out]; exact q2⟩⟩
            clear hP hj
            go_wp2
            go_ret3
            exact FIN.out
          · have hjl : j < cs.length := by omega
            have hjA : j < A.length := by rw [LA.out]; exact hjl
            obtain ⟨x, hget⟩ : ∃ x, A[j]? = some x := ⟨_, List.getElem?_eq_getElem hjA⟩
            have hne : A ≠ [] := by intro q; subst q; simp at hjA
            obtain ⟨b, off, cp, hv, hcell⟩ := (Sl.of_own hP.rowA).elem An.cells_length (by decide) hne
            simp only [Value.slice.injEq] at hv
            obtain ⟨rfl, hz, rfl⟩ := hv
            clear hz
            have cc : ∀ t y, x.cells[t]? = some y → wr.cell? ⟨b, off + j * 5 + t, none⟩ = some y := fun t y hy => by rw [Nat.add_assoc]; exact hcell j x hget t y hy
            have e0 := cc 0 _ rfl; have e1 := cc 1 _ rfl; have e2 := cc 2 _ rfl; have e3 := cc 3 _ rfl; have e4 := cc 4 _ rfl
            simp only [Nat.add_zero] at e0
            have HP := Lib.hid hP; have HG := Lib.hid hget; have HJ := Lib.hid hj
            have szr := hP.below.size
            clear hP hget hj cc hcell hne hjA
            go_wp2_with (at_builtin; refine wpList_app2 rfl (.tmp 46) (.tmp 54) 24 rfl w.heap.size 41 _ 5 48 Try.underlying24 Try.infoAnswer rfl (by decide) _ j _ rfl ((HP.out.own.alloc _).alloc _) _ 1 x.cells rfl (sl_at' _ _ _ _ _ _ (by simp)) rfl (by simp [An.cells, Value.oneCell']) (.inr (.inr (by decide))) (by omega) (by decide) (by simp; omega) ?_; intro v' w2 hown hg hn; have N2 := Lib.hid (HP.out.next HG.out hown hg); clear hown hg hn)
            go_roundg (gk - 1)
            case measure => omega
            case rel => exact ⟨j + 1, by have := HJ.out; omega, by go_num, N2.out⟩
      · have FIN : Hid (Defd w cs (.returned (.tuple #[.slice none 0 0, .slice none 0 0, .bool false])) w1) := ⟨B1.out, .inr ⟨hok, rfl⟩⟩
        clear B1 BL hok
        go_wp2_with fail
        go_loopg [2, 42] 0 (fun n ans k wr => k = .int .i64 0 ∧ ans = .slice none 0 0 ∧ wr = w1)
        case atStart => exact ⟨rfl, rfl, rfl⟩
        case round =>
          obtain ⟨rfl, rfl, rfl⟩ := hrel
          go_wp2
          go_ret3
          exact FIN.out
    · have hjl : j < cs.length := by omega
      obtain ⟨c, hget⟩ : ∃ c, cs[j]? = some c := ⟨_, List.getElem?_eq_getElem hjl⟩
      have hne : cs ≠ [] := by intro q; subst q; simp at hjl
      obtain ⟨b, off, cp, hv, hcell⟩ := HSL.out.elem Cl.cells_length (by decide) hne
      simp only [Value.slice.injEq] at hv
      obtain ⟨rfl, _, rfl⟩ := hv
      have hbw : b < w.heap.size := World.block_lt_of_cell? w ⟨b, off + (j * 8 + 0), none⟩ (hcell j c hget 0 _ rfl)
      have cc : ∀ t y, c.cells[t]? = some y → wr.cell? ⟨b, off + j * 8 + t, none⟩ = some y := fun t y hy => by
        rw [hP.below.cell (p := ⟨b, off + j * 8 + t, none⟩) hbw, Nat.add_assoc]; exact hcell j c hget t y hy
      have e0 := cc 0 _ rfl; have e1 := cc 1 _ rfl; have e2 := cc 2 _ rfl; have e3 := cc 3 _ rfl; have e4 := cc 4 _ rfl; have e5 := cc 5 _ rfl; have e6 := cc 6 _ rfl; have e7 := cc 7 _ rfl
      simp only [Nat.add_zero] at e0
      have HP := Lib.hid hP; have HG := Lib.hid hget; have HJ := Lib.hid hj
      have szr := hP.below.size
      clear hP hget hj cc hcell hne
      go_wp2_with (at_builtin; refine wpList_app2 rfl (.tmp 17) (.tmp 31) 76 rfl w.heap.size 79 _ 8 72 Try.underlying76 Try.infoSCall rfl (by decide) _ j _ rfl ((HP.out.own.alloc _).alloc _) _ 1 c.cells rfl (sl_at' _ _ _ _ _ _ (by simp)) rfl (by simp [Cl.cells, Value.oneCell']) (.inr (.inr (by decide))) (by omega) (by decide) (by simp; omega) ?_; intro v' w2 hown hg hn; have N2 := Lib.hid (HP.out.next HG.out hown hg); clear hown hg hn)
      go_roundg (gk - 1)
      case measure => omega
      case rel => exact ⟨j + 1, by have := HJ.out; omega, by go_num, N2.out⟩
end Bead
end Go.Proofs.Ytidnmanljdadaaa
