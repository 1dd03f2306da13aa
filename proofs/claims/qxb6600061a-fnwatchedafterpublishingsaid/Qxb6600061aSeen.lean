/-
  The map 'seen' of looked, in a captured variable (seat 061a); the two closures; IndexFunc, ContainsFunc.
-/
import Derived.Test.Qxb6600061aSpans
import Derived.Maps.Own
import Derived.Maps.Views
import Derived.Maps.StringElems
import Derived.Maps.OwnOps
namespace Go.Proofs.Qxb6600061a
open Go.RowKit Go.Maps

def sPend : ByteArray := ⟨#[112, 101, 110, 100, 105, 110, 103]⟩
def sPub : ByteArray := ⟨#[112, 117, 98, 108, 105, 115, 104, 101, 100]⟩

theorem keyed2 : Keyed Try.prog 2 := int_keyed Try.underlying2
theorem zero67 (w : World) : (zeroValue 67).run Try.prog w = .ok (.string ⟨#[]⟩) w := by kernel_rfl

/-- A number of kind int64. -/
abbrev Ok64 (x : Int) : Prop := (Lit.int .i64 x).wf = true

/-- The map in block M, of at most n entries, holds g x at each x ("" where nothing was laid). -/
def MapIs (w : World) (M n : Nat) (g : Int → ByteArray) : Prop :=
  ∃ D : DataW Unit, w.ownsMap Try.prog 2 (plainElem Try.prog 67) M n D ∧ ∀ x, D.atKey (.int .i64 x) (.lit (.string [])) = .lit (.string (g x).data.toList)

/-- .. and the captured variable in block v leads to it. -/
structure Seen (w : World) (v M n : Nat) (g : Int → ByteArray) : Prop where
  box : w.cell? ⟨v, 0, none⟩ = some (.map (some M))
  map : MapIs w M n g

theorem MapIs.lt {w : World} {M n : Nat} {g : Int → ByteArray} (h : MapIs w M n g) : M < w.heap.size := by
  obtain ⟨D, h1, _⟩ := h
  exact h1.lt

theorem MapIs.grown {w w' : World} {M n : Nat} {g : Int → ByteArray} {row : Option Nat} (h : MapIs w M n g) (hg : w.grownBy w' row) (hne : some M ≠ row) : MapIs w' M n g := by
  obtain ⟨D, h1, h2⟩ := h
  exact ⟨D, h1.kept hg hne, h2⟩

theorem MapIs.since {w w' : World} {M n B : Nat} {g : Int → ByteArray} (h : MapIs w M n g) (hs : w.Since B w') (hB : M < B) : MapIs w' M n g := by
  obtain ⟨D, ⟨es, clock, hb, F, h3, h4⟩, h2⟩ := h
  exact ⟨D, ⟨es, clock, (hs.block M hB).trans hb, F, h3, h4⟩, h2⟩

theorem Seen.since {w w' : World} {v M n B : Nat} {g : Int → ByteArray} (h : Seen w v M n g) (hs : w.Since B w') (hv : v < B) (hM : M < B) : Seen w' v M n g :=
  ⟨(hs.cell (a := ⟨v, 0, none⟩) hv).trans h.box, h.map.since hs hM⟩

theorem MapIs.made (w : World) : MapIs (w.alloc (.map #[] 0)) w.heap.size 0 (fun _ => ⟨#[]⟩) :=
  ⟨_, World.ownsMap_made w _ _ _, fun x => WideAt.atKey_none _ (by simp)⟩

theorem MapIs.lookup {w : World} {M n : Nat} {g : Int → ByteArray} (h : MapIs w M n g) {x : Int} (hx : Ok64 x) :
    (Instr.lookup 66 (.map (some M)) (.int .i64 x) false).run Try.prog w = .ok (.string (g x)) w := by
  obtain ⟨D, h1, h2⟩ := h
  obtain ⟨v, ps, hr, hv⟩ := h1.lookup keyed2 Try.underlying66 (zero67 w) (plainElem_string Try.underlying67 (by decide)) (keyOf_int_mk Try.underlying2 hx)
  obtain ⟨s, rfl, e, _⟩ := plainElem_string_inv Try.underlying67 hv
  have e1 := (Prod.mk.inj e).1
  rw [h2 x] at e1
  have e2 : (g x).data.toList = s.data.toList := by injection e1 with e1; injection e1
  have e3 : g x = s := by
    cases hg : g x with
    | mk d => cases s with
      | mk d' => rw [hg] at e2; simp only at e2; rw [Array.toList_inj.1 e2]
  rw [e3]
  exact hr

theorem ownsMap_isMap {w : World} {M n : Nat} {D : DataW Unit} (h : w.ownsMap Try.prog 2 (plainElem Try.prog 67) M n D) : IsMap D := by
  obtain ⟨es, clock, _, _, _, rfl⟩ := h
  exact ⟨_, rfl⟩

/-- What the map holds behind a store. -/
def upd (g : Int → ByteArray) (x : Int) (s : ByteArray) : Int → ByteArray := fun y => if y = x then s else g y

theorem MapIs.put {w w' : World} {M n : Nat} {g : Int → ByteArray} {D : DataW Unit} (h0 : w.ownsMap Try.prog 2 (plainElem Try.prog 67) M n D) (h1 : ∀ x, D.atKey (.int .i64 x) (.lit (.string [])) = .lit (.string (g x).data.toList)) {x : Int} (hx : Ok64 x) {s : ByteArray}
    (h : w'.ownsMap Try.prog 2 (plainElem Try.prog 67) M (n + 1) (D.put (.int .i64 x) (.lit (.string s.data.toList)))) : MapIs w' M (n + 1) (upd g x s) := by
  refine ⟨_, h, fun y => ?_⟩
  unfold upd
  by_cases e : y = x
  · subst e
    rw [if_pos rfl]
    exact atKey_put_same (ownsMap_isMap h0) (by first | exact hx | trivial | simp [WideAt.IsKeyLit]) _ _
  · rw [if_neg e, atKey_put_other (by intro h; injection h with h1 h2; exact e h2)]
    exact h1 y
end Go.Proofs.Qxb6600061a
