/-
  The map queueOf of a lockSplit: names to (site, place). No walk here.
-/
import Derived.Test.Qxb6600184aRows
import Derived.WalkKit
import Derived.Maps.Own
import Derived.Maps.Views
import Derived.Deep.OwnRows
namespace Go.Proofs.Qxb6600184a
open Go.RowKit Go.Maps
open Go.WideMaps (keyOf_string_mk)

/-- How a lockQueue reads. -/
def rdQ (a b : Int) : DataW Unit := .agg [.lit (.int .i64 a), .lit (.int .i64 b)]
def rdL : List Value → Option (DataW Unit × List MemPlace)
  | [.int .i64 a, .int .i64 b] => some (rdQ a b, [])
  | _ => none
def R70 : Value → Option (DataW Unit × List MemPlace)
  | .agg cs => rdL cs.toList
  | _ => none
theorem R70_mk (a b : Int) : R70 (.agg #[.int .i64 a, .int .i64 b]) = some (rdQ a b, []) := rfl
theorem R70_inv {v : Value} {z : DataW Unit × List MemPlace} (h : R70 v = some z) : ∃ a b, v = .agg #[.int .i64 a, .int .i64 b] ∧ z = (rdQ a b, []) := by
  unfold R70 at h
  split at h
  · rename_i cs
    unfold rdL at h
    split at h
    · rename_i a b e
      cases h
      exact ⟨a, b, by rw [← e], rfl⟩
    · cases h
  · cases h
theorem rdQ_inj {a b c d : Int} (h : rdQ a b = rdQ c d) : a = c ∧ b = d := by
  unfold rdQ at h
  simpa using h

theorem keyed9 : Keyed Try.prog 9 := string_keyed Try.underlying9
theorem zero70 (w : World) : (zeroValue 70).run Try.prog w = .ok (.agg #[.int .i64 0, .int .i64 0]) w := by kernel_rfl

/-- A name that can be a key. -/
abbrev OkN (s : ByteArray) : Prop := s.size ≤ maxLen

/-- The key of a name. -/
def kN (s : ByteArray) : Lit := .string s.data.toList
theorem kN_inj {s t : ByteArray} (h : kN s = kN t) : s = t := by
  unfold kN at h
  injection h with h
  cases s; cases t
  simp only at h
  rw [Array.toList_inj.1 h]

/-- The map in block M, of at most n entries, reads as G. -/
def MapQ (w : World) (M n : Nat) (G : ByteArray → Option (Int × Int)) : Prop :=
  ∃ D : DataW Unit, w.ownsMap Try.prog 9 R70 M n D ∧ ∀ s, (G s = none → ∀ zd, D.atKey (kN s) zd = zd) ∧ ∀ a b, G s = some (a, b) → ∀ zd, D.atKey (kN s) zd = rdQ a b

theorem MapQ.lt {w : World} {M n : Nat} {G : ByteArray → Option (Int × Int)} (h : MapQ w M n G) : M < w.heap.size := by
  obtain ⟨D, h1, _⟩ := h
  exact h1.lt

theorem MapQ.block {w w' : World} {M n : Nat} {G : ByteArray → Option (Int × Int)} (h : MapQ w M n G) (hb : w'.heap[M]? = w.heap[M]?) : MapQ w' M n G := by
  obtain ⟨D, ⟨es, clock, h1, F, h3, h4⟩, h2⟩ := h
  exact ⟨D, ⟨es, clock, hb.trans h1, F, h3, h4⟩, h2⟩

theorem MapQ.made (w : World) : MapQ (w.alloc (.map #[] 0)) w.heap.size 0 (fun _ => none) :=
  ⟨_, World.ownsMap_made w _ _ _, fun s => ⟨fun _ zd => WideAt.atKey_none _ (by simp), fun a b h => by cases h⟩⟩

/-- What 'at, ok := m[s]' gives. -/
def lookV : Option (Int × Int) → Value
  | none => .tuple #[.agg #[.int .i64 0, .int .i64 0], .bool false]
  | some (a, b) => .tuple #[.agg #[.int .i64 a, .int .i64 b], .bool true]

theorem MapQ.lookup {w : World} {M n : Nat} {G : ByteArray → Option (Int × Int)} (h : MapQ w M n G) {s : ByteArray} (hs : OkN s) :
    (Instr.lookup 48 (.map (some M)) (.string s) true).run Try.prog w = .ok (lookV (G s)) w := by
  obtain ⟨D, ⟨es, clock, hb, F, _, rfl⟩, h2⟩ := h
  rcases Maps.fit_look true keyed9 Try.underlying48 (zero70 w) hb F (keyOf_string_mk Try.underlying9 hs) with ⟨hr, _, hat⟩ | ⟨e0, y, _, _, hr, hv, hat, _⟩
  · cases hG : G s with
    | none => exact hr
    | some p =>
      have e1 := (h2 s).2 p.1 p.2 hG .nil
      have e2 := hat .nil
      rw [show kN s = .string s.data.toList from rfl, e2] at e1
      cases e1
  · obtain ⟨a, b, ev, ez⟩ := R70_inv hv
    cases hG : G s with
    | none =>
      have e1 := (h2 s).1 hG .nil
      have e2 := hat .nil
      rw [show kN s = .string s.data.toList from rfl, e2, ez] at e1
      cases e1
    | some p =>
      have e1 := (h2 s).2 p.1 p.2 hG .nil
      have e2 := hat .nil
      rw [show kN s = .string s.data.toList from rfl, e2, ez] at e1
      obtain ⟨ea, eb⟩ := rdQ_inj e1
      rw [hr, ev, ea, eb]
      rfl

/-- What the map holds behind a store. -/
def updQ (G : ByteArray → Option (Int × Int)) (s : ByteArray) (p : Int × Int) : ByteArray → Option (Int × Int) := fun t => if t = s then some p else G t

theorem ownsMapQ_isMap {w : World} {M n : Nat} {D : DataW Unit} (h : w.ownsMap Try.prog 9 R70 M n D) : IsMap D := by
  obtain ⟨es, clock, _, _, _, rfl⟩ := h
  exact ⟨_, rfl⟩

/-- 'm[s] = lockQueue{a, b}'. -/
theorem MapQ.update {w : World} {M n : Nat} {G : ByteArray → Option (Int × Int)} (h : MapQ w M n G) {s : ByteArray} (hs : OkN s) (hn : n < maxLen) (a b : Int) :
    ∃ w', (Instr.mapUpdate 48 (.map (some M)) (.string s) (.agg #[.int .i64 a, .int .i64 b])).run Try.prog w = .ok () w' ∧ MapQ w' M (n + 1) (updQ G s (a, b)) ∧ w.grownBy w' (some M) := by
  obtain ⟨D, h1, h2⟩ := h
  obtain ⟨w', hr, ho, hg⟩ := h1.update keyed9 Try.underlying48 hn (kl := kN s) (keyOf_string_mk Try.underlying9 hs) (R70_mk a b)
  refine ⟨w', hr, ⟨_, ho, fun t => ?_⟩, hg⟩
  unfold updQ
  by_cases e : t = s
  · subst e
    refine ⟨(fun h => by simp at h), fun x y h zd => ?_⟩
    simp at h
    obtain ⟨rfl, rfl⟩ := h
    exact atKey_put_same (k := kN t) (ownsMapQ_isMap h1) trivial _ _
  · simp only [if_neg e]
    have ek : kN t ≠ kN s := fun h => e (kN_inj h)
    exact ⟨fun h zd => by rw [atKey_put_other ek]; exact (h2 t).1 h zd, fun x y h zd => by rw [atKey_put_other ek]; exact (h2 t).2 x y h zd⟩
end Go.Proofs.Qxb6600184a
