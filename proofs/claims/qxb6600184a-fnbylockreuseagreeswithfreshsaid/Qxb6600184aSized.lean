/-
  sizedLists' methods, walked: count, put, of, reset, layOut.
-/
import Derived.Test.Qxb6600184aLS
namespace Go.Proofs.Qxb6600184a
open Go.RowKit

set_option maxHeartbeats 800000 in
theorem count_any (w : World) (L o g n c k : Nat) (x : Int) (hn : n ≤ 1048577) (hk : k + 1 < n) (hx0 : 0 ≤ x) (hx1 : x ≤ 1048577)
    (h0 : w.cell? ⟨L, o, none⟩ = some (.slice (some ⟨g, 0, none⟩) n c)) (h1 : w.cell? ⟨g, k + 1, none⟩ = some (.int .i64 x)) (h2 : w.frozen? ⟨g, k + 1, none⟩ = false) :
    Calls Try.prog 30 #[.pointer (some ⟨L, o, none⟩), .int .i64 k] w fun e w' => e = .returned (.tuple #[]) ∧ w.setCell ⟨g, k + 1, none⟩ (.int .i64 (x + 1)) = w' := by
  have hkz : (k : Int) + 1 < (n : Int) := by omega
  go_enter Try.func30, Try.ntmps30
  go_wp2
  go_end0
  exact ⟨rfl, rfl⟩

set_option maxHeartbeats 800000 in
theorem put_any (w : World) (L o gs gi gf ns cs ni ci nf cf k s f : Nat) (x : Int) (y : Value) (hni : ni ≤ 1048577) (hks : k < ns) (hkf : k < nf) (hsf : s + f < ni)
    (h0 : w.cell? ⟨L, o, none⟩ = some (.slice (some ⟨gs, 0, none⟩) ns cs)) (h1 : w.cell? ⟨L, o + 1, none⟩ = some (.slice (some ⟨gi, 0, none⟩) ni ci)) (h2 : w.cell? ⟨L, o + 2, none⟩ = some (.slice (some ⟨gf, 0, none⟩) nf cf))
    (h3 : w.cell? ⟨gs, k, none⟩ = some (.int .i64 s)) (h4 : w.cell? ⟨gf, k, none⟩ = some (.int .i64 f)) (h5 : w.cell? ⟨gi, s + f, none⟩ = some y) (z1 : w.frozen? ⟨gi, s + f, none⟩ = false) (z2 : w.frozen? ⟨gf, k, none⟩ = false)
    (d1 : L ≠ gi) (d2 : gf ≠ gi) :
    Calls Try.prog 32 #[.pointer (some ⟨L, o, none⟩), .int .i64 k, .int .i64 x] w fun e w' => (∃ r, e = .returned (.int .i64 r)) ∧ ∃ m, ((w.drewN m).setCell ⟨gi, s + f, none⟩ (.int .i64 x)).setCell ⟨gf, k, none⟩ (.int .i64 ((f : Int) + 1)) = w' := by
  have hk1 : (k : Int) < (ns : Int) := by omega
  have hk2 : (k : Int) < (nf : Int) := by omega
  have hk3 : (s : Int) + (f : Int) < (ni : Int) := by omega
  go_enter Try.func32, Try.ntmps32
  go_wp2
  go_quiet (fail)
  go_wp2
  go_ret
  exact ⟨⟨_, rfl⟩, _, rfl⟩

/-- What 'of' hands back. -/
def Part (w : World) (ad : Option Addr) (st en : Nat) (e : Ending) (w' : World) : Prop :=
  ∃ a' c', e = .returned (.slice a' (en - st) c') ∧ (st < en → a' = ad.map fun x => ⟨x.block, x.off + st, none⟩) ∧ ∃ o m, (w.alloc o).drewN m = w'

set_option maxHeartbeats 800000 in
theorem of_nil (w : World) (gs ns cs k : Nat) (hns : ns ≤ 1048577) (hk : k + 1 < ns)
    (h3 : w.cell? ⟨gs, k, none⟩ = some (.int .i64 0)) (h4 : w.cell? ⟨gs, k + 1, none⟩ = some (.int .i64 0)) :
    Calls Try.prog 33 #[.agg #[.slice (some ⟨gs, 0, none⟩) ns cs, .slice none 0 0], .int .i64 k] w (Part w none 0 0) := by
  have hk1 : (k : Int) < (ns : Int) := by omega
  have hk2 : (k : Int) + 1 < (ns : Int) := by omega
  have g3 : ∀ o, (w.alloc o).cell? ⟨gs, k, none⟩ = some (.int .i64 0) := old1 h3
  have g4 : ∀ o, (w.alloc o).cell? ⟨gs, k + 1, none⟩ = some (.int .i64 0) := old1 h4
  go_enter Try.func33, Try.ntmps33
  go_wp2
  go_quiet (fail)
  go_wp2
  go_ret
  exact ⟨none, 0, rfl, (fun h => absurd h (by omega)), _, _, rfl⟩

set_option maxHeartbeats 800000 in
theorem of_some (w : World) (gi gs ns cs ni ci k st en : Nat) (hns : ns ≤ 1048577) (hk : k + 1 < ns) (hse : st ≤ en) (hen : en ≤ ni) (hc : ni ≤ ci)
    (h3 : w.cell? ⟨gs, k, none⟩ = some (.int .i64 st)) (h4 : w.cell? ⟨gs, k + 1, none⟩ = some (.int .i64 en)) :
    Calls Try.prog 33 #[.agg #[.slice (some ⟨gs, 0, none⟩) ns cs, .slice (some ⟨gi, 0, none⟩) ni ci], .int .i64 k] w (Part w (some ⟨gi, 0, none⟩) st en) := by
  have hk1 : (k : Int) < (ns : Int) := by omega
  have hk2 : (k : Int) + 1 < (ns : Int) := by omega
  have k5 : (st : Int) ≤ (en : Int) := by omega
  have k6 : (en : Int) ≤ (ci : Int) := by omega
  have g3 : ∀ o, (w.alloc o).cell? ⟨gs, k, none⟩ = some (.int .i64 st) := old1 h3
  have g4 : ∀ o, (w.alloc o).cell? ⟨gs, k + 1, none⟩ = some (.int .i64 en) := old1 h4
  go_enter Try.func33, Try.ntmps33
  go_wp2
  go_quiet (fail)
  go_wp2
  all_goals
    go_ret
    refine ⟨_, _, rfl, fun h => ?_, _, _, rfl⟩
    first | (exfalso; omega) | simp

theorem zero3 : ∀ w, (zeroValue 3).run Try.prog w = .ok (.int .i64 0) w := fun _ => by kernel_rfl

theorem setRep {g : Nat} {e : TypeId} {fr : Nat × Nat} (z : Value) : ∀ (n o : Nat) (w : World) (cur : Array Value), w.heap[g]? = some (.cells cur e fr) → o + n ≤ cur.size →
    ∃ cur', (w.setCells g o (List.replicate n z)).heap[g]? = some (.cells cur' e fr) ∧ cur'.size = cur.size ∧ (∀ j, cur'[j]? = if o ≤ j ∧ j < o + n then some z else cur[j]?) ∧ w.grownBy (w.setCells g o (List.replicate n z)) (some g)
  | 0, o, w, cur, h, _ => ⟨cur, h, rfl, fun j => by rw [if_neg (by omega)], ⟨rfl, rfl, rfl, Nat.le_refl _, fun _ _ _ => rfl⟩⟩
  | n + 1, o, w, cur, h, hn => by
    have h1 : (w.setCell ⟨g, o, none⟩ z).heap[g]? = some (.cells (cur.setIfInBounds o z) e fr) := by simp [World.setCell, Array.getElem?_modify, h]
    obtain ⟨cur', a1, a2, a3, a4⟩ := setRep z n (o + 1) (w.setCell ⟨g, o, none⟩ z) (cur.setIfInBounds o z) h1 (by simp; omega)
    refine ⟨cur', a1, by simpa using a2, fun j => ?_, ?_⟩
    · rw [a3 j]
      by_cases e : j = o
      · subst e
        rw [if_neg (by omega), if_pos (by omega)]
        simp [show j < cur.size by omega]
      · by_cases hj : o + 1 ≤ j ∧ j < o + 1 + n
        · rw [if_pos hj, if_pos (by omega)]
        · rw [if_neg hj, if_neg (by omega), Array.getElem?_setIfInBounds, if_neg (fun h => e h.symm)]
    · refine ⟨a4.os, a4.tape, a4.output, Nat.le_trans (by simp) a4.size, fun k hk hne => ?_⟩
      rw [show w.setCells g o (List.replicate (n + 1) z) = (w.setCell ⟨g, o, none⟩ z).setCells g (o + 1) (List.replicate n z) from rfl]
      rw [a4.block k (by simpa using hk) hne]
      exact blk_set _ _ _ _ (fun e => hne (by subst e; rfl))

/-- clear over an own row of ints. -/
theorem clear_own {w : World} {base g n c : Nat} {xs : List Value} (h : w.ownsRow base 3 1 (.slice (some ⟨g, 0, none⟩) n c) n xs) (hn : 0 < n) :
    (∀ ty, (Builtin.clear_ #[22] ty #[.slice (some ⟨g, 0, none⟩) n c]).run Try.prog w = .ok (.tuple #[]) (w.setCells g 0 (List.replicate n (.int .i64 0)))) ∧
    (w.setCells g 0 (List.replicate n (.int .i64 0))).ownsRow base 3 1 (.slice (some ⟨g, 0, none⟩) n c) n (List.replicate n (.int .i64 0)) ∧ w.grownBy (w.setCells g 0 (List.replicate n (.int .i64 0))) (some g) := by
  have hl : xs.length = n := by have := h.1; omega
  have hrd : ∀ j, j < n → ∃ x, xs[j]? = some x := fun j hj => ⟨xs[j], by simp [hl, hj]⟩
  refine ⟨fun ty => Lib.run_clear_slice w 22 3 ty (.int .i64 0) Try.underlying22 zero3 rfl rfl g 0 n c hn (fun j hj => ?_) (fun j hj => ?_), ?_⟩
  · obtain ⟨x, hx⟩ := hrd j hj
    rw [Nat.zero_add, (ownsRow_read h hx).1]; rfl
  · obtain ⟨x, hx⟩ := hrd j hj
    rw [Nat.zero_add, (ownsRow_read h hx).2]
  · rcases h.2 with ⟨e, _⟩ | ⟨g', cap, cur, hv', hb, hh, hnc, hcm, hs, ht⟩
    · cases e
    · have e := hv'
      simp only [Value.slice.injEq, Option.some.injEq, Addr.mk.injEq] at e
      obtain ⟨⟨rfl, _⟩, _, rfl⟩ := e
      obtain ⟨cur', a1, a2, a3, a4⟩ := setRep (.int .i64 0) n 0 w cur hh (by omega)
      refine ⟨⟨by simp, .inr ⟨g, c, cur', rfl, hb, a1, hnc, hcm, by omega, ?_⟩⟩, a4⟩
      apply List.ext_getElem?
      intro j
      by_cases hj : j < n
      · rw [List.getElem?_take_of_lt (by omega), Array.getElem?_toList, a3 j, if_pos (by omega)]
        simp [hj]
      · rw [List.getElem?_eq_none (by simp; omega), List.getElem?_eq_none (by simp; omega)]

/-- A row that is owned at some length lies where it lies. -/
theorem ownsRow_zero {w : World} {base : Nat} {e : TypeId} {a : Option Addr} {n c : Nat} {xs : List Value} (h : w.ownsRow base e 1 (.slice a n c) n xs) : w.ownsRow base e 1 (.slice a 0 c) 0 [] := by
  obtain ⟨ys, hy⟩ := ownsRow_cap h (Nat.zero_le c)
  have : ys = [] := List.eq_nil_of_length_eq_zero (by simpa using hy.1)
  subst this
  exact hy

def lsRow (g n c : Nat) (xs : List Value) : Ent := ⟨3, 1, .slice (some ⟨g, 0, none⟩) n c, n, xs⟩

set_option maxHeartbeats 800000 in
theorem reset_any (w : World) (L o n : Nat) (E : Nat → Ent) (c0 c1 : Value) (h : LS w L E c0 c1) (ho1 : 2 ≤ o) (ho2 : o < 11) (he : (E o).e = 3) (hsz : (E o).sz = 1) (hn : n ≤ 1048575) :
    Calls Try.prog 29 #[.pointer (some ⟨L, o, none⟩), .int .i64 n] w fun e w' => e = .returned (.tuple #[]) ∧ ∃ g c, LS w' L (upd E o (lsRow g (n + 1) c (List.replicate (n + 1) (.int .i64 0)))) c0 c1 ∧ Step w w' L E (upd E o (lsRow g (n + 1) c (List.replicate (n + 1) (.int .i64 0)))) := by
  have hown := h.own o ho1 ho2
  rw [he, hsz] at hown
  obtain ⟨a, c, hv⟩ : ∃ a c, (E o).v = .slice a (E o).n c := by
    rcases hown.2 with ⟨hv, h0⟩ | ⟨g, cap, cur, hv, _⟩
    · exact ⟨none, 0, by rw [hv, h0]⟩
    · exact ⟨_, _, hv⟩
  have hcell := h.cellE ho1 ho2
  rw [hv] at hown hcell
  have hz := ownsRow_zero hown
  have hlt := h.lt
  obtain ⟨m, hm⟩ : ∃ m, m = (E o).n := ⟨_, rfl⟩
  rw [← hm] at hcell
  clear hm hown
  rcases hz.2 with ⟨hv', _⟩ | ⟨g0, cap, cur, hv', _⟩
  · simp only [Value.slice.injEq] at hv'
    obtain ⟨rfl, _, rfl⟩ := hv'
    go_enter Try.func29, Try.ntmps29
    go_wp2_with fail
    rw [show ((n : Int) + 1) = ((n + 1 : Nat) : Int) from by omega]
    refine (grow_any w (L + 1) none 0 (n + 1) hz (by omega) (by omega)).mono ?_
    rintro e w1 ⟨a', c', rfl, hc', hown1, hg1, hloc⟩
    obtain ⟨g, rfl⟩ : ∃ g, a' = some ⟨g, 0, none⟩ := by
      rcases hown1.2 with ⟨hv', _⟩ | ⟨g, cap, cur, hv', _⟩
      · simp only [Value.slice.injEq] at hv'; omega
      · simp only [Value.slice.injEq] at hv'; exact ⟨g, hv'.1⟩
    obtain ⟨ys, hys⟩ := ownsRow_cap hown1 hc'
    obtain ⟨h1, s1⟩ := h.grown hg1
    have hloc' : ∀ k, (Value.slice (some ⟨g, 0, none⟩) (n + 1) c').ownBlock = some k → (E o).v.ownBlock = some k ∨ w.heap.size ≤ k := by
      intro k hk
      rcases hloc with ⟨e, _⟩ | ⟨g', e, hge⟩
      · left; rw [hv, ← e]; exact hk
      · right
        simp only [Option.some.injEq, Addr.mk.injEq] at e
        simp only [Value.ownBlock, Option.some.injEq] at hk
        omega
    obtain ⟨h2, s2⟩ := h.field (i := o) ho1 ho2 (w1 := w1) ⟨hg1.os, hg1.tape, hg1.output, hg1.size, fun k hk _ => hg1.block k hk (by simp)⟩ hys hloc'
    have ho := h2.own o ho1 ho2
    simp only [upd_same] at ho
    obtain ⟨hcl, hz1, hgz⟩ := clear_own ho (by omega)
    have q0 := h1.cellE ho1 ho2
    rw [hv] at q0
    have q1 := h1.frozen o
    obtain ⟨h3, s3⟩ := h2.write (i := o) ho1 ho2 (by rw [upd_same]; exact hgz) (by rw [upd_same]; exact hz1)
    have H3 : Hid (LS _ L _ c0 c1 ∧ Step w _ L E _) := ⟨h3, s2.trans s3⟩
    clear h1 s1 h2 s2 h3 s3 hz1 hgz ho hys hown1 hg1 hloc hloc' hz hcell
    have hnz : (0 : Int) ≤ ((n + 1 : Nat) : Int) := by omega
    have hnz2 : ((n + 1 : Nat) : Int) ≤ (c' : Int) := by omega
    go_wp2
    go_end0
    refine ⟨rfl, g, c', ?_⟩
    have := H3.out
    rw [upd_same] at this
    have e : upd (upd E o ⟨3, 1, .slice (some ⟨g, 0, none⟩) (n + 1) c', n + 1, ys⟩) o { (⟨3, 1, .slice (some ⟨g, 0, none⟩) (n + 1) c', n + 1, ys⟩ : Ent) with xs := List.replicate (n + 1) (.int .i64 0) } = upd E o (lsRow g (n + 1) c' (List.replicate (n + 1) (.int .i64 0))) := by
      funext j; simp only [upd, lsRow]; split <;> rfl
    rw [← e]
    exact this
  · simp only [Value.slice.injEq] at hv'
    obtain ⟨rfl, _, rfl⟩ := hv'
    go_enter Try.func29, Try.ntmps29
    go_wp2_with fail
    rw [show ((n : Int) + 1) = ((n + 1 : Nat) : Int) from by omega]
    refine (grow_any w (L + 1) (some ⟨g0, 0, none⟩) c (n + 1) hz (by omega) (by omega)).mono ?_
    rintro e w1 ⟨a', c', rfl, hc', hown1, hg1, hloc⟩
    obtain ⟨g, rfl⟩ : ∃ g, a' = some ⟨g, 0, none⟩ := by
      rcases hown1.2 with ⟨hv', _⟩ | ⟨g, cap, cur, hv', _⟩
      · simp only [Value.slice.injEq] at hv'; omega
      · simp only [Value.slice.injEq] at hv'; exact ⟨g, hv'.1⟩
    obtain ⟨ys, hys⟩ := ownsRow_cap hown1 hc'
    obtain ⟨h1, s1⟩ := h.grown hg1
    have hloc' : ∀ k, (Value.slice (some ⟨g, 0, none⟩) (n + 1) c').ownBlock = some k → (E o).v.ownBlock = some k ∨ w.heap.size ≤ k := by
      intro k hk
      rcases hloc with ⟨e, _⟩ | ⟨g', e, hge⟩
      · left; rw [hv, ← e]; exact hk
      · right
        simp only [Option.some.injEq, Addr.mk.injEq] at e
        simp only [Value.ownBlock, Option.some.injEq] at hk
        omega
    obtain ⟨h2, s2⟩ := h.field (i := o) ho1 ho2 (w1 := w1) ⟨hg1.os, hg1.tape, hg1.output, hg1.size, fun k hk _ => hg1.block k hk (by simp)⟩ hys hloc'
    have ho := h2.own o ho1 ho2
    simp only [upd_same] at ho
    obtain ⟨hcl, hz1, hgz⟩ := clear_own ho (by omega)
    have q0 := h1.cellE ho1 ho2
    rw [hv] at q0
    have q1 := h1.frozen o
    obtain ⟨h3, s3⟩ := h2.write (i := o) ho1 ho2 (by rw [upd_same]; exact hgz) (by rw [upd_same]; exact hz1)
    have H3 : Hid (LS _ L _ c0 c1 ∧ Step w _ L E _) := ⟨h3, s2.trans s3⟩
    clear h1 s1 h2 s2 h3 s3 hz1 hgz ho hys hown1 hg1 hloc hloc' hz hcell
    have hnz : (0 : Int) ≤ ((n + 1 : Nat) : Int) := by omega
    have hnz2 : ((n + 1 : Nat) : Int) ≤ (c' : Int) := by omega
    go_wp2
    go_end0
    refine ⟨rfl, g, c', ?_⟩
    have := H3.out
    rw [upd_same] at this
    have e : upd (upd E o ⟨3, 1, .slice (some ⟨g, 0, none⟩) (n + 1) c', n + 1, ys⟩) o { (⟨3, 1, .slice (some ⟨g, 0, none⟩) (n + 1) c', n + 1, ys⟩ : Ent) with xs := List.replicate (n + 1) (.int .i64 0) } = upd E o (lsRow g (n + 1) c' (List.replicate (n + 1) (.int .i64 0))) := by
      funext j; simp only [upd, lsRow]; split <;> rfl
    rw [← e]
    exact this
end Go.Proofs.Qxb6600184a
