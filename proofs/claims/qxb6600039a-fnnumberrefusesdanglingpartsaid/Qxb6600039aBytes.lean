/-
  Rows of bytes that a call builds by append, said by lists.
-/
import Derived.Test.Qxb6600039aBase
import Derived.Test.Qxb6600039aBrokenPlain
namespace Go.Proofs.Qxb6600039a
open Go.RowKit Sc

def bl (l : List Int) : List Value := l.map (Value.int .u8)
theorem bl_len (l : List Int) : (bl l).length = l.length := by simp [bl]
theorem bl_app (a b : List Int) : bl (a ++ b) = bl a ++ bl b := by simp [bl]
theorem bl_one (l : List Int) : ∀ u ∈ bl l, u.oneCell' = true := by
  intro u hu
  obtain ⟨_, _, rfl⟩ := List.mem_map.1 hu
  rfl
theorem bl_get (l : List Int) {i : Nat} (h : i < l.length) : (bl l)[i]? = some (.int .u8 (by_ l i)) := by simp [bl, by_, List.getD, h]

/-- A new block's cells, as an append wants them. -/
theorem news_new (w : World) (l : List Value) (t : TypeId) : ∀ j u, l[j]? = some u → (w.alloc (.cells l.toArray t)).cell? ((⟨w.heap.size, 0, none⟩ : Addr).add j) = some u := by
  intro j u hu
  have hb : (w.alloc (.cells l.toArray t)).heap[w.heap.size]? = some (.cells l.toArray t) := by
    show (w.heap.push _)[w.heap.size]? = _
    simp
  rw [Addr.add_lit, Nat.zero_add]
  simp only [World.cell?, hb]
  simpa using hu

theorem owned_isInts {w : World} {base : Nat} {e : TypeId} {a : Option Addr} {n c : Nat} {l : List Int} (h : w.ownsRow base e 1 (.slice a n c) n (bl l)) : n = l.length ∧ IsInts w .u8 a n (by_ l) := by
  have hl : n = l.length := by have := h.1; rw [bl_len] at this; omega
  refine ⟨hl, fun hn => ?_⟩
  rcases h.2 with ⟨_, rfl⟩ | ⟨g, cap, cur, hv, _, hh, _⟩
  · omega
  · simp only [Value.slice.injEq] at hv
    obtain ⟨rfl, _, rfl⟩ := hv
    refine ⟨g, 0, rfl, (Array.getElem?_eq_some_iff.1 hh).1, fun i hi => ?_⟩
    have := h.cells (g := g) rfl i _ (bl_get l (by omega))
    rwa [Addr.add_lit] at this

/-- The cells of a readable slice, for an append. -/
theorem IsInts.cellsL {w : World} {a : Option Addr} {n : Nat} {f : Nat → Int} (h : IsInts w .u8 a n f) : ∀ ad, a = some ad → ∀ j u, (bl ((List.range n).map f))[j]? = some u → w.cell? (ad.add j) = some u := by
  intro ad had j u hu
  have hj : j < n := by have := (List.getElem?_eq_some_iff.1 hu).1; rw [bl_len] at this; simpa using this
  obtain ⟨b, off, ea, _, hc⟩ := h (by omega)
  rw [had] at ea
  obtain rfl := Option.some.inj ea
  rw [Addr.add_lit, hc j hj]
  have : (bl ((List.range n).map f))[j]? = some (.int .u8 (f j)) := by simp [bl, hj]
  rw [this] at hu
  exact hu

theorem shape3 {w : World} {base : Nat} {e : TypeId} {size : Nat} {v : Value} {n : Nat} {xs : List Value} (h : w.ownsRow base e size v n xs) : ∃ a c, v = .slice a n c := by
  rcases h.2 with ⟨rfl, rfl⟩ | ⟨g, cap, cur, rfl, _⟩
  · exact ⟨none, 0, rfl⟩
  · exact ⟨_, _, rfl⟩

/-! ### jsb1HexDigit -/
theorem hexd_any (n : Int) (up : Bool) (w : World) (h0 : 0 ≤ n) (h1 : n ≤ 15) : Calls Try.prog 30 #[.int .u8 n, .bool up] w fun e w' => (∃ h, e = .returned (.int .u8 h) ∧ hexB h = true) ∧ w = w' := by
  by_cases h : n < 10
  · go_enter Try.func30, Try.ntmps30
    go_wp2
    go_ret
    refine ⟨⟨_, rfl, ?_⟩, rfl⟩
    simp [hexB]; omega
  · cases up
    · go_enter Try.func30, Try.ntmps30
      go_wp2
      go_ret
      refine ⟨⟨_, rfl, ?_⟩, rfl⟩
      simp [hexB]; omega
    · go_enter Try.func30, Try.ntmps30
      go_wp2
      go_ret
      refine ⟨⟨_, rfl, ?_⟩, rfl⟩
      simp [hexB]; omega
end Go.Proofs.Qxb6600039a
