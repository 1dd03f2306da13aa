/-
  Slices of names, and of lists of names, that came in: opened.
-/
import Derived.Test.Qxb6600184aLawD
import Derived.Deep.Strs
namespace Go.Proofs.Qxb6600184a
open Go.ChangeShapes Go.WideShapes Go.Deep Go.RowKit

section
variable {H : Type} {enc : TypeId × Value → H} {w : World} {base : Nat} {spare : Nat → Bool} {held : Bool} {fuel : Nat} {x : DataW H × List MemPlace}

theorem cells9 : Try.prog.cellsOf 9 = 1 := by kernel_rfl
theorem cells23 : Try.prog.cellsOf 23 = 1 := by kernel_rfl

/-- What is known of a slice of names. -/
def NamesIn (w : World) (a : Option Addr) (len cap : Nat) (N : Nat → ByteArray) : Prop :=
  len ≤ maxLen ∧ (a = none → len = 0 ∧ cap = 0) ∧ InB w w.heap.size a len (fun i => .string (N i)) ∧ ∀ i, i < len → (N i).size ≤ maxLen

theorem open_names {cs : List Value} (h : DataW.trod enc Try.prog w base spare held fuel 23 cs = some x) : ∃ a len cap, cs = [.slice a len cap] ∧ ∃ N, NamesIn w a len cap N := by
  rcases open_strs Try.underlying23 Try.underlying9 cells9 h with ⟨e, _⟩ | ⟨ad, len, cap, m, N, e, hb, hl, hm, hmm, _, hx⟩
  · exact ⟨none, 0, 0, e, fun _ => default, Nat.zero_le _, fun _ => ⟨rfl, rfl⟩, (fun h => absurd h (by omega)), fun i hi => absurd hi (by omega)⟩
  · have hlm : len ≤ m := by rw [hmm]; split <;> omega
    refine ⟨some ad, len, cap, e, N, Nat.le_trans hl hm, (fun h => by cases h), fun hn => ?_, fun i hi => (hx i (by omega)).2⟩
    obtain ⟨b, off, spot⟩ := ad
    have h0 := (hx 0 (by omega)).1
    have hspot : spot = none := by simpa [Addr.add] using World.cell?_spot h0
    subst hspot
    refine ⟨b, off, rfl, ?_, fun i hi => ?_⟩
    · have := World.block_lt_of_cell? _ _ h0; simpa [Addr.add] using this
    · have := (hx i (by omega)).1; rwa [Addr.add_lit] at this

theorem open_names1 {a : Option Addr} {len cap : Nat} (h : DataW.trod enc Try.prog w base spare held fuel 23 [.slice a len cap] = some x) : ∃ N, NamesIn w a len cap N := by
  obtain ⟨a', l', c', e, N, hN⟩ := open_names h
  simp at e
  obtain ⟨rfl, rfl, rfl⟩ := e
  exact ⟨N, hN⟩

/-- What is known of a slice of lists of names. -/
def ListsIn (w : World) (a : Option Addr) (len cap : Nat) (xl : Nat → Nat) (X : Nat → Nat → ByteArray) : Prop :=
  len ≤ maxLen ∧ (a = none → len = 0 ∧ cap = 0) ∧ XInZ w w.heap.size a len xl X ∧ (∀ i, i < len → xl i ≤ maxLen) ∧ ∀ i, i < len → ∀ r, r < xl i → (X i r).size ≤ maxLen

theorem open_lists {a : Option Addr} {len cap : Nat} (h : DataW.trod enc Try.prog w base spare held fuel 24 [.slice a len cap] = some x) : ∃ xl X, ListsIn w a len cap xl X := by
  rcases open_slice1 Try.underlying24 cells23 h with ⟨e, _⟩ | ⟨ad, len', cap', m, n, V, D, Pl, e, hb, hl, hm, hmm, _, hx⟩
  · simp at e
    obtain ⟨rfl, rfl, rfl⟩ := e
    exact ⟨fun _ => 0, fun _ _ => default, Nat.zero_le _, fun _ => ⟨rfl, rfl⟩, (fun h => absurd h (by omega)), (fun i hi => absurd hi (by omega)), fun i hi => absurd hi (by omega)⟩
  · simp at e
    obtain ⟨rfl, rfl, rfl⟩ := e
    have hlm : len ≤ m := by rw [hmm]; split <;> omega
    have one : ∀ i, i < len → ∃ p : Nat × (Nat → ByteArray), ∃ a c, V i = .slice a p.1 c ∧ NamesIn w a p.1 c p.2 := fun i hi => by
      obtain ⟨a, l, c, e, N, hN⟩ := open_names (hx i (by omega)).2
      simp at e
      exact ⟨(l, N), a, c, e, hN⟩
    obtain ⟨p, hp⟩ := choose_lt one
    refine ⟨fun i => (p i).1, fun i => (p i).2, Nat.le_trans hl hm, (fun h => by cases h), fun hn => ?_, fun i hi => ?_, fun i hi => ?_⟩
    · obtain ⟨b, off, spot⟩ := ad
      have h0 := (hx 0 (by omega)).1
      have hspot : spot = none := by simpa [Addr.add] using World.cell?_spot h0
      subst hspot
      refine ⟨b, off, rfl, ?_, fun i hi => ?_⟩
      · have := World.block_lt_of_cell? _ _ h0; simpa [Addr.add] using this
      · have h1 := (hx i (by omega)).1
        rw [Addr.add_lit] at h1
        obtain ⟨a, c, e, hN⟩ := hp i hi
        exact ⟨a, c, by rw [h1, e], hN.2.1, hN.2.2.1⟩
    · obtain ⟨a, c, e, hN⟩ := hp i hi
      exact hN.1
    · obtain ⟨a, c, e, hN⟩ := hp i hi
      exact hN.2.2.2
end
end Go.Proofs.Qxb6600184a
