/-
  A slice of spans that came in, opened (seat 061a).
-/
import Derived.Test.Qxb6600061aSeen
import Derived.Deep.Slices
namespace Go.Proofs.Qxb6600061a
open Go.ChangeShapes Go.WideShapes Go.Deep

section
variable {H : Type} {enc : TypeId × Value → H} {w : World} {base : Nat} {spare : Nat → Bool} {held : Bool} {fuel : Nat} {cs : List Value} {x : DataW H × List MemPlace}

theorem cells23 : Try.prog.cellsOf 23 = 1 := by kernel_rfl
theorem cells31 : Try.prog.cellsOf 31 = 4 := by kernel_rfl
theorem cells2 : Try.prog.cellsOf 2 = 1 := by kernel_rfl
theorem cells3 : Try.prog.cellsOf 3 = 1 := by kernel_rfl

/-- A slice of int64. -/
theorem open_list (h : DataW.trod enc Try.prog w base spare held fuel 23 cs = some x) :
    ∃ a l c, cs = [.slice a l.length c] ∧ (a = none → l = [] ∧ c = 0) ∧ l.length ≤ maxLen ∧ IsList w a l ∧ ∀ y ∈ l, Ok64 y := by
  rcases open_ints Try.underlying23 Try.underlying2 cells2 h with ⟨rfl, _⟩ | ⟨a, len, cap, zs, rfl, _, hl, hm, hz, _, hcell, hwz⟩
  · exact ⟨none, [], 0, rfl, fun _ => ⟨rfl, rfl⟩, Nat.zero_le _, (fun h => absurd h (by simp)), fun y hy => by simp at hy⟩
  · have hlz : len ≤ zs.length := by rw [hz]; split <;> omega
    have hll : (zs.take len).length = len := by simp; omega
    refine ⟨some a, zs.take len, cap, by rw [hll], (fun h => by cases h), by omega, fun hn => ?_, fun y hy => hwz y (List.mem_of_mem_take hy)⟩
    rw [hll] at hn
    obtain ⟨b, off, spot⟩ := a
    have h0 := hcell 0 (by omega)
    have hspot : spot = none := by simpa [Addr.add] using World.cell?_spot h0
    subst hspot
    refine ⟨b, off, rfl, ?_, fun i hi => ?_⟩
    · have := World.block_lt_of_cell? _ _ h0; simpa [Addr.add] using this
    · have hi' : i < len := by omega
      have := hcell i (by omega)
      rw [Addr.add_mid] at this
      rw [this]
      simp [List.getD, hi']

theorem open_span {b o : Nat} (hc : ∀ i, i < 4 → w.cell? ⟨b, o + i, none⟩ = cs[i]?) (hcl : cs.length = 4) (h : DataW.trod enc Try.prog w base spare held fuel 31 cs = some x) :
    ∃ s : Sp, IsSp4 (fun _ => True) w b o s ∧ s.wl.length ≤ maxLen ∧ ∀ y ∈ s.wl, Ok64 y := by
  obtain ⟨xs, n, _, _, _, hlen, hf⟩ := DataW.trod_struct Try.underlying31 h
  match cs, hcl with
  | [v0, v1, v2, v3], _ =>
    match xs, hlen with
    | [x0, x1, x2, x3], _ =>
      have g0 := hf 0 _ rfl
      have g1 := hf 1 _ rfl
      have g2 := hf 2 _ rfl
      have g3 := hf 3 _ rfl
      simp [cells2, cells3, cells23] at g0 g1 g2 g3
      obtain ⟨lo, e0, _, _⟩ := DataW.trod_int Try.underlying2 g0
      obtain ⟨hi, e1, _, _⟩ := DataW.trod_int Try.underlying2 g1
      obtain ⟨pe, e2, _, _⟩ := DataW.trod_int Try.underlying3 g2
      obtain ⟨a, l, c, e3, hz, hl, hL, hok⟩ := open_list g3
      simp at e0 e1 e2 e3
      subst e0 e1 e2 e3
      have c0 := hc 0 (by omega)
      exact ⟨⟨lo, hi, pe, l⟩, ⟨World.block_lt_of_cell? _ _ c0, c0, hc 1 (by omega), hc 2 (by omega), a, c, hc 3 (by omega), hz, fun _ _ _ => trivial, hL⟩, hl, hok⟩

theorem open_spans {a : Option Addr} {len cap : Nat} (h : DataW.trod enc Try.prog w base spare held fuel 22 [.slice a len cap] = some x) :
    len ≤ maxLen ∧ (a = none → len = 0 ∧ cap = 0) ∧ ∃ S : Nat → Sp, IsSps4 w a len S ∧ ∀ i, i < len → (S i).wl.length ≤ maxLen ∧ ∀ y ∈ (S i).wl, Ok64 y := by
  rcases open_slice Try.underlying22 h with ⟨e, _⟩ | ⟨ad, len', cap', m, n, D, Pl, e, hb, hl, hm, hmm, _, hx⟩
  · simp at e
    obtain ⟨rfl, rfl, rfl⟩ := e
    exact ⟨Nat.zero_le _, fun _ => ⟨rfl, rfl⟩, fun _ => default, (fun h => absurd h (by omega)), fun i hi => absurd hi (by omega)⟩
  · simp at e
    obtain ⟨rfl, rfl, rfl⟩ := e
    refine ⟨Nat.le_trans hl hm, (fun h => by cases h), ?_⟩
    have hlm : len ≤ m := by rw [hmm]; split <;> omega
    by_cases h0 : len = 0
    · subst h0
      exact ⟨fun _ => default, (fun h => absurd h (by omega)), fun i hi => absurd hi (by omega)⟩
    obtain ⟨b, off, spot⟩ := ad
    have hspot : spot = none := by
      obtain ⟨cs', h1, _⟩ := hx 0 (by omega)
      rw [cells31] at h1
      obtain ⟨_, hl', hc⟩ := World.cells?_some h1
      have hc0 := hc 0 (by omega)
      rw [List.getElem?_eq_getElem (by omega)] at hc0
      simpa [Addr.add] using World.cell?_spot hc0
    subst hspot
    have one : ∀ i, i < len → ∃ s : Sp, IsSp4 (fun _ => True) w b (off + i * 4) s ∧ s.wl.length ≤ maxLen ∧ ∀ y ∈ s.wl, Ok64 y := fun i hi => by
      obtain ⟨cs', h1, h2⟩ := hx i (by omega)
      rw [cells31] at h1
      obtain ⟨_, hl', hc⟩ := World.cells?_some h1
      refine open_span (fun j hj => ?_) hl' h2
      have := hc j hj
      rwa [add_add, Addr.add_mid, ← Nat.add_assoc] at this
    obtain ⟨S, hS⟩ := choose_lt one
    exact ⟨S, fun _ => ⟨b, off, rfl, fun i hi => (hS i hi).1⟩, fun i hi => (hS i hi).2⟩
end
end Go.Proofs.Qxb6600061a
