/-
  (*conflictGraph).ladders, walked: it computes Lad's cnt, want and rg.
-/
import Derived.Test.Qxb6600184aFits2
import Derived.Test.Qxb6600184aLadPlain
namespace Go.Proofs.Qxb6600184a
open Go.RowKit Lad

/-- u is among the first k of the numbers f. -/
def memB (f : Nat → Int) (k : Nat) (u : Int) : Bool := (List.range k).any (fun i => f i == u)
theorem memB_succ (f : Nat → Int) (k : Nat) (u : Int) : memB f (k + 1) u = (memB f k u || f k == u) := by simp [memB, List.range_succ]

/-- The graph that the arguments describe. -/
def gr (n1 n4 : Nat) (f1 f2 f3 f4 : Nat → Int) : Gr := ⟨fun s => (f1 s).toNat, n1 - 1, fun p => memB f4 n4 (f2 p), f3⟩

theorem gr_ok {v : Int} {n1 n2 n3 n4 : Nat} {f1 f2 f3 f4 : Nat → Int} (h : Fit v n1 n2 n3 n4 f1 f2 f4) : Ok (gr n1 n4 f1 f2 f3 f4) :=
  ⟨by show (f1 0).toNat = 0; rw [h.first]; rfl, fun s hs => by
    have hs' : s < n1 - 1 := hs
    have := h.mono s (by omega)
    show (f1 s).toNat ≤ (f1 (s + 1)).toNat
    omega⟩

theorem f1_nonneg {v : Int} {n1 n2 n3 n4 : Nat} {f1 f2 f4 : Nat → Int} (h : Fit v n1 n2 n3 n4 f1 f2 f4) : ∀ s, s < n1 → 0 ≤ f1 s
  | 0, _ => by rw [h.first]; omega
  | s + 1, hs => by have := f1_nonneg h s (by omega); have := h.mono s hs; omega
theorem f1_le {v : Int} {n1 n2 n3 n4 : Nat} {f1 f2 f4 : Nat → Int} (h : Fit v n1 n2 n3 n4 f1 f2 f4) : ∀ d s, s + d < n1 → f1 s ≤ f1 (s + d)
  | 0, s, _ => Int.le_refl _
  | d + 1, s, hs => by have := f1_le h d s (by omega); have := h.mono (s + d) (by omega); exact Int.le_trans ‹_› ‹_›
theorem f1_top {v : Int} {n1 n2 n3 n4 : Nat} {f1 f2 f4 : Nat → Int} (h : Fit v n1 n2 n3 n4 f1 f2 f4) (s : Nat) (hs : s < n1) : f1 s ≤ n2 := by
  have := f1_le h (n1 - 1 - s) s (by omega)
  rw [show s + (n1 - 1 - s) = n1 - 1 by omega, h.last] at this
  exact this

/-- WHAT THE SCAN HAS MADE: the call's own blocks (from N on: the result's; isMember; hubUpTo; l), all but the rungs' own array. -/
structure LadCore (w wr : World) (N v n2 : Nat) (mem : Nat → Bool) (hubs : Int) (upf : Nat → Int) (rv : Value) : Prop where
  since : w.Since N wr
  size : N + 4 ≤ wr.heap.size
  res : wr.rowIs N 67 3 (fun i => if i = 0 then .int .i64 0 else .slice none 0 0)
  isM : wr.rowIs (N + 1) 4 v (fun u => .bool (mem u))
  up : wr.rowIs (N + 2) 3 n2 (fun q => .int .i64 (upf q))
  l : wr.rowIs (N + 3) 67 3 (fun i => if i = 0 then .int .i64 hubs else if i = 1 then .slice (some ⟨N + 2, 0, none⟩) n2 n2 else rv)

section
variable {w wr w1 : World} {N v n2 : Nat} {mem : Nat → Bool} {hubs : Int} {upf : Nat → Int} {rv : Value}

theorem LadCore.drewN (h : LadCore w wr N v n2 mem hubs upf rv) (n : Nat) : LadCore w (wr.drewN n) N v n2 mem hubs upf rv :=
  ⟨Since.drewN h.since n, h.size, h.res, h.isM, h.up, h.l⟩

theorem LadCore.alloc (h : LadCore w wr N v n2 mem hubs upf rv) (o : Obj) : LadCore w (wr.alloc o) N v n2 mem hubs upf rv :=
  ⟨h.since.alloc (by have := h.size; omega) o, by have := h.size; simp; omega, h.res.alloc o, h.isM.alloc o, h.up.alloc o, h.l.alloc o⟩

theorem LadCore.grown (h : LadCore w wr N v n2 mem hubs upf rv) {row : Option Nat} (hg : wr.grownBy w1 row) (hr : ∀ k, row = some k → N + 4 ≤ k) : LadCore w w1 N v n2 mem hubs upf rv := by
  have hs := h.size
  have hb : ∀ k, k < N + 4 → w1.heap[k]? = wr.heap[k]? := fun k hk => hg.block k (by omega) (fun e => by have := hr k e.symm; omega)
  exact ⟨h.since.grown hg (by omega) (fun k e => by have := hr k e; omega), Nat.le_trans hs hg.size, h.res.of_block (hb _ (by omega)), h.isM.of_block (hb _ (by omega)), h.up.of_block (hb _ (by omega)), h.l.of_block (hb _ (by omega))⟩

theorem LadCore.setRungs (h : LadCore w wr N v n2 mem hubs upf rv) (rv' : Value) : LadCore w (wr.setCell ⟨N + 3, 2, none⟩ rv') N v n2 mem hubs upf rv' :=
  ⟨h.since.setCell (by show N ≤ N + 3; omega) _, by simpa using h.size, h.res.setOther (by show N ≠ N + 3; omega) _, h.isM.setOther (by show N + 1 ≠ N + 3; omega) _, h.up.setOther (by show N + 2 ≠ N + 3; omega) _,
    (h.l.set 2 rv').congr (fun i hi => by
      match i, hi with
      | 0, _ => rfl
      | 1, _ => rfl
      | 2, _ => rfl)⟩

theorem LadCore.setHubs (h : LadCore w wr N v n2 mem hubs upf rv) (hubs' : Int) : LadCore w (wr.setCell ⟨N + 3, 0, none⟩ (.int .i64 hubs')) N v n2 mem hubs' upf rv :=
  ⟨h.since.setCell (by show N ≤ N + 3; omega) _, by simpa using h.size, h.res.setOther (by show N ≠ N + 3; omega) _, h.isM.setOther (by show N + 1 ≠ N + 3; omega) _, h.up.setOther (by show N + 2 ≠ N + 3; omega) _,
    (h.l.set 0 _).congr (fun i hi => by
      match i, hi with
      | 0, _ => rfl
      | 1, _ => rfl
      | 2, _ => rfl)⟩

theorem LadCore.setUp (h : LadCore w wr N v n2 mem hubs upf rv) (p : Nat) (x : Int) {upf' : Nat → Int} (hu : ∀ q, upf' q = if q = p then x else upf q) : LadCore w (wr.setCell ⟨N + 2, p, none⟩ (.int .i64 x)) N v n2 mem hubs upf' rv :=
  ⟨h.since.setCell (by show N ≤ N + 2; omega) _, by simpa using h.size, h.res.setOther (by show N ≠ N + 2; omega) _, h.isM.setOther (by show N + 1 ≠ N + 2; omega) _,
    (h.up.set p _).congr (fun q _ => by rw [hu q]; split <;> rfl), h.l.setOther (by show N + 3 ≠ N + 2; omega) _⟩
end

/-- The scan, the places before p gone through. -/
structure LadInv (w wr : World) (N v n2 : Nat) (mem : Nat → Bool) (g : Gr) (p : Nat) (rv : Value) : Prop where
  core : LadCore w wr N v n2 mem (cnt g p) (fun q => if q < p then want g q else 0) rv
  rungs : wr.ownsRow (N + 4) 3 1 rv (rg g p).length ((rg g p).map (Value.int .i64))

theorem upf_next (g : Gr) (p : Nat) (x : Int) (hx : x = want g p) (q : Nat) : (if q < p + 1 then want g q else 0) = if q = p then x else (if q < p then want g q else 0) := by
  by_cases e : q = p
  · subst e; rw [if_pos (by omega), if_pos rfl, hx]
  · rw [if_neg e]
    by_cases h : q < p
    · rw [if_pos h, if_pos (by omega)]
    · rw [if_neg h, if_neg (by omega)]

/-- No head at p. -/
theorem inv_not {w wr : World} {N v n2 : Nat} {mem : Nat → Bool} {g : Gr} {p : Nat} {rv : Value} (h : LadInv w wr N v n2 mem g p rv) (hh : hd g p = false) {x : Int} (hx : x = want g p) :
    LadInv w (wr.setCell ⟨N + 2, p, none⟩ (.int .i64 x)) N v n2 mem g (p + 1) rv := by
  have e : cnt g (p + 1) = cnt g p := by rw [cnt_succ, hh]; rfl
  refine ⟨?_, ?_⟩
  · rw [e]; exact h.core.setUp p x (upf_next g p x hx)
  · rw [rg_not hh]; exact ownsRow_setCell_below h.rungs (by show N + 2 < N + 4; omega) _

/-- A head at p that is no rung. -/
theorem inv_first {w wr : World} {N v n2 : Nat} {mem : Nat → Bool} {g : Gr} {p nq : Nat} {rv : Value} (h : LadInv w wr N v n2 mem g p rv) (hh : hd g p = true) (hr : rg g (p + 1) = rg g p) {x y : Int} (hx : x = want g p) (hy : y = cnt g p + 1) :
    LadInv w (((wr.drewN nq).setCell ⟨N + 3, 0, none⟩ (.int .i64 y)).setCell ⟨N + 2, p, none⟩ (.int .i64 x)) N v n2 mem g (p + 1) rv := by
  have e : (cnt g (p + 1) : Int) = y := by rw [cnt_succ, hh, hy]; simp
  refine ⟨?_, ?_⟩
  · rw [e]; exact ((h.core.drewN nq).setHubs y).setUp p x (upf_next g p x hx)
  · rw [hr]; exact ownsRow_setCell_below (ownsRow_setCell_below (a := ⟨N + 3, 0, none⟩) (show (wr.drewN nq).ownsRow _ _ _ _ _ _ from h.rungs) (by show N + 3 < N + 4; omega) _) (by show N + 2 < N + 4; omega) _

/-- A head at p that is a rung: behind the append. -/
theorem inv_rung {w wr w1 : World} {N v n2 : Nat} {mem : Nat → Bool} {g : Gr} {p nq : Nat} {rv rv' : Value} (h : LadInv w wr N v n2 mem g p rv) (hh : hd g p = true) (hr : rg g (p + 1) = rg g p ++ [(cnt g p : Int)])
    {x y : Int} (hx : x = want g p) (hy : y = cnt g p + 1) (o : Obj) (hg : (wr.alloc o).grownBy w1 rv.ownBlock) (hown : w1.ownsRow (N + 4) 3 1 rv' ((rg g p).length + 1) ((rg g p).map (Value.int .i64) ++ [.int .i64 (cnt g p)])) :
    LadInv w ((((w1.setCell ⟨N + 3, 2, none⟩ rv').drewN nq).setCell ⟨N + 3, 0, none⟩ (.int .i64 y)).setCell ⟨N + 2, p, none⟩ (.int .i64 x)) N v n2 mem g (p + 1) rv' := by
  have e : (cnt g (p + 1) : Int) = y := by rw [cnt_succ, hh, hy]; simp
  have hc := (h.core.alloc o).grown hg (fun k hk => (h.rungs.lt k hk).1)
  refine ⟨?_, ?_⟩
  · rw [e]; exact (((hc.setRungs rv').drewN nq).setHubs y).setUp p x (upf_next g p x hx)
  · rw [hr, List.length_append, List.map_append]
    have h1 : (w1.setCell ⟨N + 3, 2, none⟩ rv').ownsRow (N + 4) 3 1 rv' ((rg g p).length + 1) ((rg g p).map (Value.int .i64) ++ [.int .i64 (cnt g p)]) := ownsRow_setCell_below hown (by show N + 3 < N + 4; omega) _
    exact ownsRow_setCell_below (ownsRow_setCell_below (a := ⟨N + 3, 0, none⟩) (show ((w1.setCell ⟨N + 3, 2, none⟩ rv').drewN nq).ownsRow _ _ _ _ _ _ from h1) (by show N + 3 < N + 4; omega) _) (by show N + 2 < N + 4; omega) _

theorem ownsRow_shape {w : World} {base : Nat} {e : TypeId} {size : Nat} {v : Value} {n : Nat} {xs : List Value} (h : w.ownsRow base e size v n xs) : ∃ a c, v = .slice a n c := by
  rcases h.2 with ⟨rfl, rfl⟩ | ⟨g, cap, cur, rfl, _⟩
  · exact ⟨none, 0, rfl⟩
  · exact ⟨_, _, rfl⟩

/-- Behind the append: what the code goes on to read. -/
theorem core_cells {w w1 : World} {N v n2 : Nat} {mem : Nat → Bool} {hubs : Int} {upf : Nat → Int} {rv : Value} (h : LadCore w w1 N v n2 mem hubs upf rv) :
    w1.cell? ⟨N + 2 + 1, 0, none⟩ = some (.int .i64 hubs) ∧ w1.cell? ⟨N + 2 + 1, 1, none⟩ = some (.slice (some ⟨N + 2, 0, none⟩) n2 n2) ∧ w1.cell? ⟨N + 2 + 1, 2, none⟩ = some rv ∧
    w1.frozen? ⟨N + 2 + 1, 0, none⟩ = false ∧ w1.frozen? ⟨N + 2 + 1, 2, none⟩ = false ∧ (∀ p, p < n2 → w1.cell? ⟨N + 2, p, none⟩ = some (.int .i64 (upf p))) ∧ (∀ p, w1.frozen? ⟨N + 2, p, none⟩ = false) :=
  ⟨h.l.cell (i := 0) (by omega), h.l.cell (i := 1) (by omega), h.l.cell (i := 2) (by omega), h.l.frozen 0, h.l.frozen 2, fun p hp => h.up.cell hp, fun p => h.up.frozen p⟩

/-- The start of the scan. -/
theorem inv_start {w wr : World} {N v n2 : Nat} {mem : Nat → Bool} {g : Gr} (hS : w.Since N wr) (hsz : wr.heap.size = N + 2) (hR : wr.rowIs N 67 3 (fun i => if i = 0 then .int .i64 0 else .slice none 0 0)) (hI : wr.rowIs (N + 1) 4 v (fun u => .bool (mem u))) (o : Obj) :
    LadInv w (((wr.alloc (.cells (madeCells #[.int .i64 0] n2) 3)).alloc (.cells #[.int .i64 0, .slice (some ⟨N + 2, 0, none⟩) n2 n2, .slice none 0 0] 67)).alloc o) N v n2 mem g 0 (.slice none 0 0) := by
  have h2 : (wr.alloc (.cells (madeCells #[.int .i64 0] n2) 3)).heap.size = N + 3 := by simp [hsz]
  have h3 : ((wr.alloc (.cells (madeCells #[.int .i64 0] n2) 3)).alloc (.cells #[.int .i64 0, .slice (some ⟨N + 2, 0, none⟩) n2 n2, .slice none 0 0] 67)).heap.size = N + 4 := by simp [hsz]
  have hu := World.rowIs_made wr (.int .i64 0) n2 3
  rw [hsz] at hu
  have hl := World.rowIs_alloc (wr.alloc (.cells (madeCells #[.int .i64 0] n2) 3)) #[.int .i64 0, .slice (some ⟨N + 2, 0, none⟩) n2 n2, .slice none 0 0] 67 (fun i => if i = 0 then .int .i64 0 else if i = 1 then .slice (some ⟨N + 2, 0, none⟩) n2 n2 else .slice none 0 0)
    (fun i hi => by
      match i, hi with
      | 0, _ => rfl
      | 1, _ => rfl
      | 2, _ => rfl)
  rw [h2] at hl
  refine ⟨⟨((hS.alloc (by omega) _).alloc (by omega) _).alloc (by omega) _, by simp [hsz], ((hR.alloc _).alloc _).alloc _, ((hI.alloc _).alloc _).alloc _, ((hu.alloc _).alloc _).congr (fun q _ => by simp), hl.alloc _⟩, World.ownsRow_nil _ _ _ _⟩

theorem one_old {w : World} {a : Addr} {x : Value} (h : w.cell? a = some x) (o : Obj) : (w.alloc o).cell? a = some x := by
  rw [World.cell?_of_block (w := w) (Below.heap_alloc w o a.block (World.block_lt_of_cell? _ _ h))]; exact h
theorem two_old {w : World} {a : Addr} {x : Value} (h : w.cell? a = some x) (o1 o2 : Obj) : ((w.alloc o1).alloc o2).cell? a = some x := one_old (one_old h o1) o2

theorem lad_start1 (w : World) (v : Nat) (f4 : Nat → Int) :
    let wr := (w.alloc (Obj.cells #[Value.int IntKind.i64 0, Value.slice none 0 0, Value.slice none 0 0] 67)).alloc (Obj.cells (madeCells #[Value.bool false] v) 4)
    w.Since w.heap.size wr ∧ wr.heap.size = w.heap.size + 2 ∧ wr.rowIs w.heap.size 67 3 (fun i => if i = 0 then .int .i64 0 else .slice none 0 0) ∧ wr.rowIs (w.heap.size + 1) 4 v (fun u => .bool (memB f4 0 u)) := by
  intro wr
  have hsz : (w.alloc (Obj.cells #[Value.int IntKind.i64 0, Value.slice none 0 0, Value.slice none 0 0] 67)).heap.size = w.heap.size + 1 := by simp
  refine ⟨((World.Since.refl _ _).alloc (Nat.le_refl _) _).alloc (by rw [hsz]; omega) _, by simp [wr], (World.rowIs_alloc w _ 67 _ (fun i hi => ?_)).alloc _, ?_⟩
  · match i, hi with
    | 0, _ => rfl
    | 1, _ => rfl
    | 2, _ => rfl
  · have := World.rowIs_made (w.alloc (Obj.cells #[Value.int IntKind.i64 0, Value.slice none 0 0, Value.slice none 0 0] 67)) (.bool false) v 4
    rw [hsz] at this
    exact this.congr (fun j _ => rfl)

end Go.Proofs.Qxb6600184a
