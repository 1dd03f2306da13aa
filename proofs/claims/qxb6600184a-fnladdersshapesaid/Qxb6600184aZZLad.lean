/-
  ZZLadders, by the contract of ladders.
-/
import Derived.Test.Qxb6600184aLad
namespace Go.Proofs.Qxb6600184a
open Go.RowKit Lad

theorem ownsRow_isInts {w : World} {base : Nat} {e : TypeId} {a : Option Addr} {n c : Nat} {l : List Int} {k : IntKind} (h : w.ownsRow base e 1 (.slice a n c) n (l.map (Value.int k))) : IsInts w k a n (fun i => l.getD i 0) := by
  intro hn
  rcases h.2 with ⟨_, rfl⟩ | ⟨g, cap, cur, hv, _, hh, _⟩
  · omega
  · simp only [Value.slice.injEq] at hv
    obtain ⟨rfl, _, rfl⟩ := hv
    have hl : l.length = n := by have := h.1; simpa using this
    refine ⟨g, 0, rfl, (Array.getElem?_eq_some_iff.1 hh).1, fun i hi => ?_⟩
    have := h.cells (g := g) rfl i (.int k (l.getD i 0)) (by simp [List.getD, hl, hi])
    rw [Addr.add_lit] at this
    exact this

theorem drewN_cell (w : World) (n : Nat) (a : Addr) : (w.drewN n).cell? a = w.cell? a := rfl

/-- What a law learns from ZZLadders. -/
def LadPost (g : Gr) (n2 : Nat) (w : World) (e : Ending) (w' : World) : Prop :=
  ∃ ua ra rc, e = .returned (.tuple #[.int .i64 (cnt g n2), .slice ua n2 n2, .slice ra (rg g n2).length rc]) ∧ IsInts w' .i64 ua n2 (want g) ∧ IsInts w' .i64 ra (rg g n2).length (fun i => (rg g n2).getD i 0) ∧ w.Since w.heap.size w'

set_option maxHeartbeats 1600000 in
set_option maxRecDepth 100000 in
theorem zzlad (v : Nat) (a1 a2 a3 a4 : Option Addr) (n1 n2 n4 c1 c2 c3 c4 : Nat) (f1 f2 f3 f4 : Nat → Int) (w : World)
    (fit : Fit v n1 n2 n2 n4 f1 f2 f4) (h1 : IsInts w .i64 a1 n1 f1) (h2 : IsInts w .i64 a2 n2 f2) (h3 : IsInts w .i64 a3 n2 f3) (h4 : IsInts w .i64 a4 n4 f4) :
    Calls Try.prog 22 #[.int .i64 v, .slice a1 n1 c1, .slice a2 n2 c2, .slice a3 n2 c3, .slice a4 n4 c4] w (LadPost (gr n1 n4 f1 f2 f3 f4) n2 w) := by
  have hv1 := fit.v1
  have hmk := run_make_row' (P := Try.prog) 23 9 (.string ByteArray.empty) 16 Try.underlying23 Try.info9 rfl .i64 .i64 v (by omega) (by omega)
  have ok := gr_ok (f3 := f3) fit
  obtain ⟨g, hg⟩ : ∃ g, g = gr n1 n4 f1 f2 f3 f4 := ⟨_, rfl⟩
  rw [← hg] at ok ⊢
  have hgm : Hid (g.m = n1 - 1) := by rw [hg]; exact rfl
  have hga : Hid (∀ s, s < n1 → f1 s = g.a s) := by
    intro s hs; have := f1_nonneg fit s hs; rw [hg]; show f1 s = ((f1 s).toNat : Int); omega
  have hgM : Hid (∀ p, p < n2 → g.M p = memB f4 n4 (f2 p)) := by intro p _; rw [hg]; rfl
  have hgJ : Hid (∀ p, p < n2 → g.J p = f3 p) := by intro p _; rw [hg]; rfl
  clear hg
  go_enter Try.func22, Try.ntmps22
  go_wp2_with fail
  clear hmk
  obtain ⟨w2, hw2⟩ : ∃ w2, w2 = ((w.alloc (Obj.cells (madeCells #[Value.string ByteArray.empty] v) 9)).alloc
      (Obj.cells
        #[Value.slice (some { block := w.heap.size, off := 0 }) v v, Value.map none, Value.slice none 0 0,
          Value.slice none 0 0, Value.slice none 0 0, Value.slice none 0 0, Value.slice none 0 0, Value.slice none 0 0,
          Value.slice a1 n1 c1, Value.slice a2 n2 c2, Value.slice none 0 0, Value.slice none 0 0, Value.slice a3 n2 c3,
          Value.slice none 0 0, Value.slice none 0 0, Value.int IntKind.i64 0, Value.pointer none, Value.pointer none]
        65)) := ⟨_, rfl⟩
  rw [← hw2]
  have hs2 : w.Since w.heap.size w2 := by rw [hw2]; exact ((World.Since.refl _ _).alloc (Nat.le_refl _) _).alloc (by simp) _
  have hz2 : w2.heap.size = w.heap.size + 2 := by rw [hw2]; simp
  have hb := World.rowIs_alloc (w.alloc (Obj.cells (madeCells #[Value.string ByteArray.empty] v) 9)) #[Value.slice (some { block := w.heap.size, off := 0 }) v v, Value.map none, Value.slice none 0 0,
          Value.slice none 0 0, Value.slice none 0 0, Value.slice none 0 0, Value.slice none 0 0, Value.slice none 0 0,
          Value.slice a1 n1 c1, Value.slice a2 n2 c2, Value.slice none 0 0, Value.slice none 0 0, Value.slice a3 n2 c3,
          Value.slice none 0 0, Value.slice none 0 0, Value.int IntKind.i64 0, Value.pointer none, Value.pointer none] 65 (fun i => (#[Value.slice (some { block := w.heap.size, off := 0 }) v v, Value.map none, Value.slice none 0 0,
          Value.slice none 0 0, Value.slice none 0 0, Value.slice none 0 0, Value.slice none 0 0, Value.slice none 0 0,
          Value.slice a1 n1 c1, Value.slice a2 n2 c2, Value.slice none 0 0, Value.slice none 0 0, Value.slice a3 n2 c3,
          Value.slice none 0 0, Value.slice none 0 0, Value.int IntKind.i64 0, Value.pointer none, Value.pointer none]).getD i .nilFunc) (fun i hi => by
    rw [Array.getElem?_eq_getElem hi, Array.getD_eq_getD_getElem?, Array.getElem?_eq_getElem hi]; rfl)
  rw [← hw2] at hb
  have e1 : (w.alloc (Obj.cells (madeCells #[Value.string ByteArray.empty] v) 9)).heap.size = w.heap.size + 1 := by simp
  rw [e1] at hb
  clear hw2 e1
  have g0 := hb.cell (i := 0) (by simp)
  have g8 := hb.cell (i := 8) (by simp)
  have g9 := hb.cell (i := 9) (by simp)
  have g12 := hb.cell (i := 12) (by simp)
  refine (lad_walk v (some ⟨w.heap.size, 0, none⟩) a1 a2 a3 a4 (w.heap.size + 1) n1 n2 n4 v c1 c2 c3 c4 f1 f2 f3 f4 w2 g fit ok hgm hga hgM hgJ (by omega) g0 g8 g9 g12 (h1.since hs2 (Nat.le_refl _)) (h2.since hs2 (Nat.le_refl _)) (h3.since hs2 (Nat.le_refl _)) (h4.since hs2 (Nat.le_refl _))).mono ?_
  clear g0 g8 g9 g12 hb
  rintro e w3 ⟨rv, rfl, hs3, hu, hr⟩
  obtain ⟨ra, rc, rfl⟩ := ownsRow_shape hr
  have hs : w.Since w.heap.size w3 := hs2.trans ⟨hs3.os, hs3.tape, hs3.output, hs3.size, fun k hk => hs3.block k (by omega)⟩
  have hU := rowIs.isInts hu
  rw [hz2] at hU
  have hR := ownsRow_isInts hr
  clear hs3 hu hr
  go_wp2
  go_quiet (fail)
  go_wp2
  go_ret3
  refine ⟨_, _, _, rfl, hU.since ?_ (Nat.le_refl _), hR.since ?_ (Nat.le_refl _), ?_⟩
  · exact Since.drewN ((World.Since.refl _ _).alloc (Nat.le_refl _) _) _
  · exact Since.drewN ((World.Since.refl _ _).alloc (Nat.le_refl _) _) _
  · exact Since.drewN (hs.alloc hs.size _) _
end Go.Proofs.Qxb6600184a
