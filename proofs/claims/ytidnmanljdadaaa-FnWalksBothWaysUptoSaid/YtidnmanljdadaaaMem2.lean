/- append onto a slice of the call's own, once more: the row behind it is the old one or a new block. -/
import Derived.Test.YtidnmanljdadaaaMem
import Derived.ArgAppend
import Derived.RegionTactic
set_option linter.all false
namespace Go.Proofs.Ytidnmanljdadaaa
open Go.RowKit
namespace Bead

theorem app_block {P : Program} {w : World} {t ty e : TypeId} {i : TypeInfo} {z : Value} {size bytes base : Nat} (ht : P.underlying t = some (.slice e)) (hi : P.info? e = some i) (hz : i.zero = some z)
    (hsize : i.size = size) (hby : i.bytes = bytes) (hzs : z.cells.size = size) (hsz : 0 < size) {v : Value} {n : Nat} {xs : List Value} (hown : w.ownsRow base e size v n xs)
    {ad : Addr} {m c : Nat} {news : List Value} (hl : news.length = m * size) (hnews : ∀ j u, news[j]? = some u → w.cell? (ad.add j) = some u) (h1 : ∀ u ∈ news, u.oneCell' = true)
    (h63 : n + m ≤ maxLen) (hbytes : (n + m) * bytes ≤ 140737488355328) {v' : Value} {w' : World}
    (hr : (Builtin.append_ #[t, t] ty #[v, .slice (some ad) m c]).run P w = .ok v' w') : ∀ k, v'.ownBlock = some k → v.ownBlock = some k ∨ w.heap.size ≤ k := by
  rcases hown.2 with ⟨rfl, rfl⟩ | ⟨g, cap, cur, rfl, _, hg, hnc, hcm, hcs, htake⟩
  · obtain ⟨v2, w2, r, o, _⟩ := run_append_own (P := P) w w.heap.size t ty e i z size bytes ht hi hz hsize hby hzs hsz (.slice none 0 0) 0 [] (World.ownsRow_nil w _ e size) ad m c news hl hnews h1 h63 hbytes (Nat.le_refl _)
    rw [hr] at r
    simp only [Result.ok.injEq] at r
    obtain ⟨rfl, rfl⟩ := r
    intro k hk
    exact .inr (o.lt k hk).1
  · by_cases hroom : n + m ≤ cap
    · subst hsize
      have hlt : ∀ j, j < news.length → 0 + n * i.size + j < cur.size := by
        intro j hj
        rw [hcs]
        have : (n + m) * i.size ≤ cap * i.size := Nat.mul_le_mul_right _ hroom
        rw [Nat.add_mul] at this
        omega
      have r := run_append_room_cells (P := P) w t ty e i ht hi g 0 n cap ad m c news hl hnews h1 hroom
        (fun j hj => by rw [cell_of_row w g _ cur e (0, 0) hg]; rw [Array.getElem?_eq_getElem (hlt j hj)]; rfl)
        (fun j _ => frozen_of_row w g _ cur e hg)
      rw [hr] at r
      simp only [Result.ok.injEq] at r
      obtain ⟨rfl, rfl⟩ := r
      intro k hk
      exact .inl hk
    · have holds : ∀ j u, xs[j]? = some u → w.cell? ((⟨g, 0, none⟩ : Addr).add j) = some u := hown.cells rfl
      obtain ⟨v2, w2, r, o, _⟩ := run_append_arg_grows (P := P) w t ty e i z size bytes ht hi hz hsize hby hzs hsz ⟨g, 0, none⟩ n cap xs hown.1 holds ad m c news hl hnews (by omega) h63 hbytes
      rw [hr] at r
      simp only [Result.ok.injEq] at r
      obtain ⟨rfl, rfl⟩ := r
      intro k hk
      exact .inr (o.lt k hk).1

/-- append onto a slice of the call's own, whatever is appended; the row's block is the old one or new: at the operation. -/
theorem wp_app2 {P : Program} {w : World} {o : Oper} {a : Act} {K : Act → World → Prop} {Q : Exit → Act → World → Prop} (s x : Operand) (t : TypeId)
    (ho : o.op = .call { callee := .builtin .append, args := #[s, x], argTypes := #[t, t] })
    (base : Nat) (e : TypeId) (z : Value) (size bytes : Nat) (ht : P.underlying t = some (.slice e)) (hinfo : (P.info? e).map (fun i => (i.zero, i.size, i.bytes)) = some (some z, size, bytes)) (hzs : z.cells.size = size) (hsz : 0 < size)
    (v : Value) (n : Nat) (xs : List Value) (hs : a.eval s = v) (hown : w.ownsRow base e size v n xs)
    (vx : Value) (m : Nat) (news : List Value) (hx : a.eval x = vx) (hsl : Sl w vx m news) (hl : news.length = m * size) (h1 : ∀ u ∈ news, u.oneCell' = true) (hcap : vx = .slice none m 0 ∨ vx.ownBlock ≠ none ∨ m ≠ 0)
    (hbytes : (n + m) * bytes ≤ 140737488355328) (hb1 : 1 ≤ bytes) (hbase : base ≤ w.heap.size)
    (h : ∀ v' w', w'.ownsRow base e size v' (n + m) (xs ++ news) → w.grownBy w' v.ownBlock → (∀ k, v'.ownBlock = some k → v.ownBlock = some k ∨ w.heap.size ≤ k) → K (a.put o.dst v') w') : o.wp P a w K Q := by
  obtain ⟨i, hi, hz0, hz1, hz2⟩ := info_parts hinfo
  obtain ⟨ad, cap, rfl, hc⟩ := hsl
  have hle : n + m ≤ (n + m) * bytes := Nat.le_mul_of_pos_right _ hb1
  have h63 : n + m ≤ maxLen := by unfold maxLen; omega
  cases ad with
  | some ad =>
    have hcells : ∀ j u, news[j]? = some u → w.cell? (ad.add j) = some u := by
      intro j u hu
      obtain ⟨b, off, hb, hc'⟩ := hc (by intro q; subst q; simp at hu)
      obtain rfl : ad = ⟨b, off, none⟩ := by simpa using hb
      have := hc' j u hu
      unfold Addr.add
      split
      · rename_i q; subst q; exact this
      · exact this
    obtain ⟨v', w', hr, h2, h3, h4⟩ := run_append_own (P := P) w base t o.type e i z size bytes ht hi hz0 hz1 hz2 hzs hsz v n xs hown ad m cap news hl hcells h1 h63 hbytes hbase
    have h5 := app_block ht hi hz0 hz1 hz2 hzs hsz hown hl hcells h1 h63 hbytes hr
    unfold Oper.wp execOp
    simp only [ho, resolve, invoke, builtin, Sem.run_bind, Sem.run_pure, Result.andThen_ok, List.map_toArray, List.map_cons, List.map_nil, hs, hx, hr]
    exact h v' w' h2 h3 h5
  | none =>
    have hm : m = 0 := by
      rcases Nat.eq_zero_or_pos m with q | q
      · exact q
      · have : news ≠ [] := by
          intro r; subst r
          have := Nat.mul_pos q hsz
          simp only [List.length_nil] at hl; omega
        obtain ⟨b, off, hb, _⟩ := hc this
        simp at hb
    subst hm
    have hnews : news = [] := List.eq_nil_of_length_eq_zero (by simpa using hl)
    subst hnews
    have hcap0 : cap = 0 := by
      rcases hcap with q | q | q
      · simpa using q
      · simp [Value.ownBlock] at q
      · exact absurd rfl q
    subst hcap0
    have hr := run_append_owned_none (P := P) (w := w) base t o.type e i size ht hi v n xs hown
    unfold Oper.wp execOp
    simp only [ho, resolve, invoke, builtin, Sem.run_bind, Sem.run_pure, Result.andThen_ok, List.map_toArray, List.map_cons, List.map_nil, hs, hx, hr]
    exact h v w (by simpa using hown) ⟨rfl, rfl, rfl, Nat.le_refl _, fun _ _ _ => rfl⟩ (fun k hk => .inl hk)

/-- .. in a region's list. -/
theorem wpList_app2 {P : Program} {w : World} {ops : Array Oper} {rest : List Oper} {o : Oper} {a : Act} {Q : Exit → Act → World → Prop} (hgd : o.guard = none) (s x : Operand) (t : TypeId)
    (ho : o.op = .call { callee := .builtin .append, args := #[s, x], argTypes := #[t, t] })
    (base : Nat) (e : TypeId) (z : Value) (size bytes : Nat) (ht : P.underlying t = some (.slice e)) (hinfo : (P.info? e).map (fun i => (i.zero, i.size, i.bytes)) = some (some z, size, bytes)) (hzs : z.cells.size = size) (hsz : 0 < size)
    (v : Value) (n : Nat) (xs : List Value) (hs : a.eval s = v) (hown : w.ownsRow base e size v n xs)
    (vx : Value) (m : Nat) (news : List Value) (hx : a.eval x = vx) (hsl : Sl w vx m news) (hl : news.length = m * size) (h1 : ∀ u ∈ news, u.oneCell' = true) (hcap : vx = .slice none m 0 ∨ vx.ownBlock ≠ none ∨ m ≠ 0)
    (hbytes : (n + m) * bytes ≤ 140737488355328) (hb1 : 1 ≤ bytes) (hbase : base ≤ w.heap.size)
    (h : ∀ v' w', w'.ownsRow base e size v' (n + m) (xs ++ news) → w.grownBy w' v.ownBlock → (∀ k, v'.ownBlock = some k → v.ownBlock = some k ∨ w.heap.size ≤ k) → wpList P ops Q rest (a.put o.dst v') w') : wpList P ops Q (o :: rest) a w :=
  wpList_plain hgd fun _ hK => wp_app2 s x t ho base e z size bytes ht hinfo hzs hsz v n xs hs hown vx m news hx hsl hl h1 hcap hbytes hb1 hbase fun v' w' a b c => hK _ _ (h v' w' a b c)
/-- .. at a step of a region that draws its order. -/
theorem step_app2 {P : Program} {w : World} {ops : Array Oper} {o : Oper} {a : Act} {K : Act → World → Prop} {Q : Exit → Act → World → Prop} {E : Prop} (hgd : o.guard = none) (s x : Operand) (t : TypeId)
    (ho : o.op = .call { callee := .builtin .append, args := #[s, x], argTypes := #[t, t] })
    (base : Nat) (e : TypeId) (z : Value) (size bytes : Nat) (ht : P.underlying t = some (.slice e)) (hinfo : (P.info? e).map (fun i => (i.zero, i.size, i.bytes)) = some (some z, size, bytes)) (hzs : z.cells.size = size) (hsz : 0 < size)
    (v : Value) (n : Nat) (xs : List Value) (hs : a.eval s = v) (hown : w.ownsRow base e size v n xs)
    (vx : Value) (m : Nat) (news : List Value) (hx : a.eval x = vx) (hsl : Sl w vx m news) (hl : news.length = m * size) (h1 : ∀ u ∈ news, u.oneCell' = true) (hcap : vx = .slice none m 0 ∨ vx.ownBlock ≠ none ∨ m ≠ 0)
    (hbytes : (n + m) * bytes ≤ 140737488355328) (hb1 : 1 ≤ bytes) (hbase : base ≤ w.heap.size)
    (h : ∀ v' w', w'.ownsRow base e size v' (n + m) (xs ++ news) → w.grownBy w' v.ownBlock → (∀ k, v'.ownBlock = some k → v.ownBlock = some k ∨ w.heap.size ≤ k) → K (a.put o.dst v') w') :
    if Region.wanted o (yielded ops a.tmps) = true then Oper.wp P o a w K Q else E := by
  have hw : Region.wanted o (yielded ops a.tmps) = true := by simp [Region.wanted, hgd]
  rw [if_pos hw]
  exact wp_app2 s x t ho base e z size bytes ht hinfo hzs hsz v n xs hs hown vx m news hx hsl hl h1 hcap hbytes hb1 hbase h
end Bead
end Go.Proofs.Ytidnmanljdadaaa
