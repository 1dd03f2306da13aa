/-
  THE lockSplit IN MEMORY: one block of eleven cells, nine rows of its own, pairwise apart; what stores and appends do to it. No walk here.
-/
import Derived.Test.Qxb6600184aGrow
import Derived.Maps.AppendAt
namespace Go.Proofs.Qxb6600184a
open Go.RowKit

structure Ent where
  e : TypeId
  sz : Nat
  v : Value
  n : Nat
  xs : List Value

def upd (E : Nat → Ent) (i : Nat) (x : Ent) : Nat → Ent := fun j => if j = i then x else E j
theorem upd_same (E : Nat → Ent) (i : Nat) (x : Ent) : upd E i x i = x := by simp [upd]
theorem upd_other (E : Nat → Ent) {i j : Nat} (x : Ent) (h : j ≠ i) : upd E i x j = E j := by simp [upd, h]

/-- The cells of the block. -/
def lsCell (c0 c1 : Value) (E : Nat → Ent) (i : Nat) : Value := if i = 0 then c0 else if i = 1 then c1 else (E i).v

structure LS (w : World) (L : Nat) (E : Nat → Ent) (c0 c1 : Value) : Prop where
  row : w.rowIs L 54 11 (lsCell c0 c1 E)
  own : ∀ i, 2 ≤ i → i < 11 → w.ownsRow (L + 1) (E i).e (E i).sz (E i).v (E i).n (E i).xs
  apart : ∀ i j, 2 ≤ i → i < 11 → 2 ≤ j → j < 11 → i ≠ j → ∀ k, (E i).v.ownBlock = some k → (E j).v.ownBlock ≠ some k

/-- From w to w' nothing has turned but the lockSplit's own; what it owns now it owned, or it is new. -/
structure Step (w w' : World) (L : Nat) (E E' : Nat → Ent) : Prop where
  os : w'.os = w.os
  tape : w'.tape = w.tape
  output : w'.output = w.output
  size : w.heap.size ≤ w'.heap.size
  block : ∀ k, k < w.heap.size → k ≠ L → (∀ i, 2 ≤ i → i < 11 → (E i).v.ownBlock ≠ some k) → w'.heap[k]? = w.heap[k]?
  fresh : ∀ i k, 2 ≤ i → i < 11 → (E' i).v.ownBlock = some k → (∃ j, 2 ≤ j ∧ j < 11 ∧ (E j).v.ownBlock = some k) ∨ w.heap.size ≤ k

theorem Step.refl (w : World) (L : Nat) (E : Nat → Ent) : Step w w L E E :=
  ⟨rfl, rfl, rfl, Nat.le_refl _, fun _ _ _ _ => rfl, fun i _ h1 h2 h => .inl ⟨i, h1, h2, h⟩⟩

theorem Step.trans {w w1 w2 : World} {L : Nat} {E E1 E2 : Nat → Ent} (h : Step w w1 L E E1) (k : Step w1 w2 L E1 E2) : Step w w2 L E E2 := by
  refine ⟨k.os.trans h.os, k.tape.trans h.tape, k.output.trans h.output, Nat.le_trans h.size k.size, fun b hb hL hn => ?_, fun i b h1 h2 he => ?_⟩
  · rw [k.block b (Nat.lt_of_lt_of_le hb h.size) hL (fun i h1 h2 he => ?_), h.block b hb hL hn]
    rcases h.fresh i b h1 h2 he with ⟨j, j1, j2, hj⟩ | hge
    · exact hn j j1 j2 hj
    · omega
  · rcases k.fresh i b h1 h2 he with ⟨j, j1, j2, hj⟩ | hge
    · exact h.fresh j b j1 j2 hj
    · exact .inr (Nat.le_trans h.size hge)

section
variable {w w1 : World} {L : Nat} {E : Nat → Ent} {c0 c1 : Value}

theorem LS.lt (h : LS w L E c0 c1) : L < w.heap.size := h.row.lt

theorem LS.blk (h : LS w L E c0 c1) {i k : Nat} (h1 : 2 ≤ i) (h2 : i < 11) (he : (E i).v.ownBlock = some k) : L < k ∧ k < w.heap.size := by
  have := (h.own i h1 h2).lt k he; omega

/-- New blocks alone. -/
theorem LS.grown (h : LS w L E c0 c1) (hg : w.grownBy w1 none) : LS w1 L E c0 c1 ∧ Step w w1 L E E := by
  refine ⟨⟨h.row.of_block (hg.block L h.lt (by simp)), fun i h1 h2 => (h.own i h1 h2).kept hg (by cases hv : (E i).v.ownBlock <;> simp), h.apart⟩, ?_⟩
  exact ⟨hg.os, hg.tape, hg.output, hg.size, fun k hk _ _ => hg.block k hk (by simp), fun i k h1 h2 he => .inl ⟨i, h1, h2, he⟩⟩

theorem LS.alloc (h : LS w L E c0 c1) (o : Obj) : LS (w.alloc o) L E c0 c1 ∧ Step w (w.alloc o) L E E := h.grown (World.grownBy_alloc w o none)
theorem LS.drewN (h : LS w L E c0 c1) (n : Nat) : LS (w.drewN n) L E c0 c1 ∧ Step w (w.drewN n) L E E := h.grown ⟨rfl, rfl, rfl, Nat.le_refl _, fun _ _ _ => rfl⟩
theorem LS.drew (h : LS w L E c0 c1) : LS w.drew L E c0 c1 ∧ Step w w.drew L E E := h.grown ⟨rfl, rfl, rfl, Nat.le_refl _, fun _ _ _ => rfl⟩

theorem blk_set (w : World) (a : Addr) (x : Value) (k : Nat) (h : k ≠ a.block) : (w.setCell a x).heap[k]? = w.heap[k]? := Below.heap_setCell w a x k h

theorem ownsRow_of_block {base : Nat} {e : TypeId} {size : Nat} {v : Value} {n : Nat} {xs : List Value} (h : w.ownsRow base e size v n xs) (hb : ∀ k, v.ownBlock = some k → w1.heap[k]? = w.heap[k]?) : w1.ownsRow base e size v n xs := by
  refine ⟨h.1, ?_⟩
  rcases h.2 with hn | ⟨g, cap, cur, rfl, hb', hg, rest⟩
  · exact .inl hn
  · exact .inr ⟨g, cap, cur, rfl, hb', by rw [hb g rfl]; exact hg, rest⟩

/-- Field i takes a new slice, whose row is the old one (written) or new. -/
theorem LS.field (h : LS w L E c0 c1) {i : Nat} (h1 : 2 ≤ i) (h2 : i < 11) (hg : w.grownBy w1 (E i).v.ownBlock) {v' : Value} {n' : Nat} {xs' : List Value} {e' : TypeId} {sz' : Nat} (hown : w1.ownsRow (L + 1) e' sz' v' n' xs')
    (hloc : ∀ k, v'.ownBlock = some k → (E i).v.ownBlock = some k ∨ w.heap.size ≤ k) :
    LS (w1.setCell ⟨L, i, none⟩ v') L (upd E i ⟨e', sz', v', n', xs'⟩) c0 c1 ∧ Step w (w1.setCell ⟨L, i, none⟩ v') L E (upd E i ⟨e', sz', v', n', xs'⟩) := by
  have hL : w1.heap[L]? = w.heap[L]? := hg.block L h.lt (fun e => by have := h.blk h1 h2 e.symm; omega)
  have hold : ∀ j, 2 ≤ j → j < 11 → j ≠ i → ∀ k, (E j).v.ownBlock = some k → (w1.setCell ⟨L, i, none⟩ v').heap[k]? = w.heap[k]? := by
    intro j j1 j2 hji k hk
    have hb := h.blk j1 j2 hk
    rw [blk_set _ _ _ _ (by show k ≠ L; omega)]
    exact hg.block k hb.2 (fun e => h.apart j i j1 j2 h1 h2 hji k hk e.symm)
  refine ⟨⟨?_, ?_, ?_⟩, ?_⟩
  · refine ((h.row.of_block hL).set i v').congr (fun j hj => ?_)
    by_cases e : j = i
    · subst e
      simp only [lsCell, upd_same, if_true]
      rw [if_neg (by omega), if_neg (by omega)]
    · rw [if_neg e]
      simp only [lsCell]
      split
      · rfl
      · split
        · rfl
        · rw [upd_other _ _ e]
  · intro j j1 j2
    by_cases e : j = i
    · subst e
      rw [upd_same]
      refine ownsRow_of_block hown (fun k hk => blk_set _ _ _ _ ?_)
      have := (hown.lt k hk).1
      show k ≠ L; omega
    · rw [upd_other _ _ e]
      exact ownsRow_of_block (h.own j j1 j2) (fun k hk => hold j j1 j2 e k hk)
  · intro j l j1 j2 l1 l2 hjl k hk hk2
    by_cases e : j = i
    · subst e
      rw [upd_same] at hk
      rw [upd_other _ _ (fun e => hjl e.symm)] at hk2
      rcases hloc k hk with hk' | hk'
      · exact h.apart j l j1 j2 l1 l2 hjl k hk' hk2
      · have := h.blk l1 l2 hk2; omega
    · rw [upd_other _ _ e] at hk
      by_cases e2 : l = i
      · subst e2
        rw [upd_same] at hk2
        rcases hloc k hk2 with hk' | hk'
        · exact h.apart j l j1 j2 l1 l2 hjl k hk hk'
        · have := h.blk j1 j2 hk; omega
      · rw [upd_other _ _ e2] at hk2
        exact h.apart j l j1 j2 l1 l2 hjl k hk hk2
  · refine ⟨hg.os, hg.tape, hg.output, by simpa using hg.size, fun k hk hkL hn => ?_, fun j k j1 j2 hk => ?_⟩
    · rw [blk_set _ _ _ _ (by show k ≠ L; exact hkL)]
      exact hg.block k hk (fun e => hn i h1 h2 e.symm)
    · by_cases e : j = i
      · subst e
        rw [upd_same] at hk
        rcases hloc k hk with hk' | hk'
        · exact .inl ⟨j, j1, j2, hk'⟩
        · exact .inr hk'
      · rw [upd_other _ _ e] at hk
        exact .inl ⟨j, j1, j2, hk⟩

/-- The row of field i is written; the field stays. -/
theorem LS.write (h : LS w L E c0 c1) {i : Nat} (h1 : 2 ≤ i) (h2 : i < 11) (hg : w.grownBy w1 (E i).v.ownBlock) {xs' : List Value} (hown : w1.ownsRow (L + 1) (E i).e (E i).sz (E i).v (E i).n xs') :
    LS w1 L (upd E i { E i with xs := xs' }) c0 c1 ∧ Step w w1 L E (upd E i { E i with xs := xs' }) := by
  have hL : w1.heap[L]? = w.heap[L]? := hg.block L h.lt (fun e => by have := h.blk h1 h2 e.symm; omega)
  have hv : ∀ j, (upd E i { E i with xs := xs' } j).v = (E j).v := by
    intro j
    by_cases e : j = i
    · subst e; rw [upd_same]
    · rw [upd_other _ _ e]
  refine ⟨⟨(h.row.of_block hL).congr (fun j _ => by simp only [lsCell, hv]), ?_, ?_⟩, ?_⟩
  · intro j j1 j2
    by_cases e : j = i
    · subst e; rw [upd_same]; exact hown
    · rw [upd_other _ _ e]
      exact ownsRow_of_block (h.own j j1 j2) (fun k hk => hg.block k (h.blk j1 j2 hk).2 (fun e' => h.apart j i j1 j2 h1 h2 e k hk e'.symm))
  · intro j l j1 j2 l1 l2 hjl k hk
    rw [hv] at hk ⊢
    exact h.apart j l j1 j2 l1 l2 hjl k hk
  · refine ⟨hg.os, hg.tape, hg.output, hg.size, fun k hk hkL hn => hg.block k hk (fun e => hn i h1 h2 e.symm), fun j k j1 j2 hk => ?_⟩
    rw [hv] at hk
    exact .inl ⟨j, j1, j2, hk⟩

/-- One cell of a row is stored into. -/
theorem LS.store (h : LS w L E c0 c1) {i : Nat} (h1 : 2 ≤ i) (h2 : i < 11) {g n c : Nat} (hv : (E i).v = .slice (some ⟨g, 0, none⟩) n c) {j : Nat} (x : Value) :
    LS (w.setCell ⟨g, j, none⟩ x) L (upd E i { E i with xs := (E i).xs.set j x }) c0 c1 ∧ Step w (w.setCell ⟨g, j, none⟩ x) L E (upd E i { E i with xs := (E i).xs.set j x }) := by
  refine h.write h1 h2 ?_ ?_
  · rw [hv]
    exact ⟨rfl, rfl, rfl, by simp, fun k _ hk => blk_set _ _ _ _ (fun e => hk (by subst e; rfl))⟩
  · have ho := h.own i h1 h2
    refine ⟨by rw [List.length_set]; exact ho.1, ?_⟩
    rcases ho.2 with ⟨e, _⟩ | ⟨g', cap, cur, hv', hb, hh, hn, hc, hs, ht⟩
    · rw [hv] at e; cases e
    · have e := hv.symm.trans hv'
      simp only [Value.slice.injEq, Option.some.injEq, Addr.mk.injEq] at e
      obtain ⟨⟨rfl, _⟩, rfl, rfl⟩ := e
      refine .inr ⟨g, c, cur.setIfInBounds j x, hv', hb, ?_, hn, hc, by simpa using hs, ?_⟩
      · simp [World.setCell, Array.getElem?_modify, hh]
      · rw [Array.toList_setIfInBounds, ← ht, List.take_set]

/-- The count of sites. -/
theorem LS.sites (h : LS w L E c0 c1) (x : Value) : LS (w.setCell ⟨L, 0, none⟩ x) L E x c1 ∧ Step w (w.setCell ⟨L, 0, none⟩ x) L E E := by
  have hb : ∀ i, 2 ≤ i → i < 11 → ∀ k, (E i).v.ownBlock = some k → (w.setCell ⟨L, 0, none⟩ x).heap[k]? = w.heap[k]? := fun i h1 h2 k hk => blk_set _ _ _ _ (by have := h.blk h1 h2 hk; show k ≠ L; omega)
  refine ⟨⟨(h.row.set 0 x).congr (fun j _ => ?_), fun i h1 h2 => ownsRow_of_block (h.own i h1 h2) (hb i h1 h2), h.apart⟩, ?_⟩
  · simp only [lsCell]; split <;> rfl
  · exact ⟨rfl, rfl, rfl, by simp, fun k _ hkL _ => blk_set _ _ _ _ hkL, fun i k h1 h2 he => .inl ⟨i, h1, h2, he⟩⟩

/-- Another block is turned (the map's; a box). -/
theorem LS.other (h : LS w L E c0 c1) {b : Nat} (hg : w.grownBy w1 (some b)) (hbL : b ≠ L) (hbE : ∀ i, 2 ≤ i → i < 11 → (E i).v.ownBlock ≠ some b) : LS w1 L E c0 c1 := by
  refine ⟨h.row.of_block (hg.block L h.lt (by simp; exact fun e => hbL e.symm)), fun i h1 h2 => ownsRow_of_block (h.own i h1 h2) (fun k hk => hg.block k (h.blk h1 h2 hk).2 (fun e => hbE i h1 h2 (by rw [hk, e]))), h.apart⟩

theorem old1 {w : World} {a : Addr} {x : Value} (h : w.cell? a = some x) (o : Obj) : (w.alloc o).cell? a = some x := by
  rw [World.cell?_of_block (w := w) (Below.heap_alloc w o a.block (World.block_lt_of_cell? _ _ h))]; exact h

/-! ### What a walk reads -/
theorem LS.cell (h : LS w L E c0 c1) {i : Nat} (hi : i < 11) : w.cell? ⟨L, i, none⟩ = some (lsCell c0 c1 E i) := h.row.cell hi
theorem LS.cellE (h : LS w L E c0 c1) {i : Nat} (h1 : 2 ≤ i) (h2 : i < 11) : w.cell? ⟨L, i, none⟩ = some (E i).v := by
  rw [h.row.cell h2]; simp only [lsCell]; rw [if_neg (by omega), if_neg (by omega)]
theorem LS.frozen (h : LS w L E c0 c1) (i : Nat) : w.frozen? ⟨L, i, none⟩ = false := h.row.frozen i
/-- An own row's cells. -/
theorem ownsRow_read {base : Nat} {e : TypeId} {size g n m c : Nat} {xs : List Value} (h : w.ownsRow base e size (.slice (some ⟨g, 0, none⟩) m c) n xs) {j : Nat} {x : Value} (hx : xs[j]? = some x) : w.cell? ⟨g, j, none⟩ = some x ∧ w.frozen? ⟨g, j, none⟩ = false := by
  have h1 := h.cells (g := g) rfl j x hx
  rw [Addr.add_lit, Nat.zero_add] at h1
  refine ⟨h1, ?_⟩
  rcases h.2 with ⟨e, _⟩ | ⟨g', cap, cur, hv', hb, hh, _⟩
  · cases e
  · simp only [Value.slice.injEq, Option.some.injEq, Addr.mk.injEq] at hv'
    obtain ⟨⟨rfl, _⟩, _⟩ := hv'
    simp [World.frozen?, hh]
end
end Go.Proofs.Qxb6600184a
