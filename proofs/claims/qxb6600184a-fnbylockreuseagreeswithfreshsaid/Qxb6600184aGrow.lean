/-
  slices.Grow at a slice of length 0, and what it leans on: append of n zero elements where there is no room.
-/
import Derived.Test.Qxb6600184aBase
namespace Go.Proofs.Qxb6600184a
open Go.RowKit

theorem run_append_zeros {P : Program} (w : World) (t u ty e : TypeId) (q : IntKind) (i : TypeInfo) (z : Value) (ht : P.underlying t = some (.slice e)) (hu : P.underlying u = some (.int q)) (hi : P.info? e = some i) (hz : i.zero = some z) (hs : i.size = 1)
    (base : Nat) (a : Option Addr) (cap n : Nat) (xs : List Value) (hown : w.ownsRow base e 1 (.slice a cap cap) cap xs)
    (h0 : 0 < n) (h63 : cap + n ≤ 1048577) (hb : i.bytes = 8) :
    (Builtin.append_ #[t, u] ty #[.slice a cap cap, .int .i64 (n : Int)]).run P w =
      .ok (.slice (some ⟨w.heap.size, 0, none⟩) (cap + n) (grownCap w (cap + n) cap e)) (w.drew.alloc (.cells (xs.toArray ++ Builtin.zeroCells z.cells n ++ Builtin.zeroCells z.cells (grownCap w (cap + n) cap e - (cap + n))) e)) := by
  have hw : IntKind.i64.wrap (n : Int) = n := by rw [IntKind.wrap_i64]; omega
  have hn : ¬ (cap + n ≤ cap) := by omega
  have hl : ¬ (281474976710656 < (n : Int) * (i.bytes : Int)) := by rw [hb]; omega
  have h63' : ¬ (9223372036854775807 < ((cap : Int) + (n : Int))) := by omega
  have hfit := growslice_fits (need := cap + n) (old := cap) (bytes := i.bytes) (by omega) (by rw [hb]; omega)
  have h48' : ¬ (281474976710656 < Builtin.nextslicecap (cap + n) cap * i.bytes) := by omega
  have hfo : (Builtin.firstCells i.size cap (.slice a cap cap)).run P w.drew = .ok xs.toArray w.drew := by
    rcases hown.2 with ⟨hv, hc0⟩ | ⟨g, c, cur, hv, _, hg, _, _, hcs, htk⟩
    · simp only [Value.slice.injEq] at hv
      obtain ⟨rfl, rfl, _⟩ := hv
      have : xs = [] := List.eq_nil_of_length_eq_zero (by simpa using hown.1)
      subst this
      simp [Builtin.firstCells]
    · have hv' := hv
      simp only [Value.slice.injEq] at hv'
      obtain ⟨rfl, _, rfl⟩ := hv'
      refine run_firstCells_some (P := P) w.drew i.size cap ⟨g, 0, none⟩ cap cap xs (by rw [hs]; exact hown.1) (fun j v hj => ?_)
      exact hown.cells (g := g) rfl j v hj
  have hc0 : ¬ (n = 0) := by omega
  rw [hs] at hfo
  simp [Builtin.append_, run_underlying ht, run_underlying hu, sizeOf, typeInfo, zeroValue, asInt, asIntOf, hi, hz, hw, hs, Question.forced, newRow, grownCap, hfo, hn, hl, h63', h48', hc0]
  intro h; omega

theorem wpList_append_zeros {P : Program} (w : World) {ops : Array Oper} {rest : List Oper} {o : Oper} {ac : Act} {Q : Exit → Act → World → Prop}
    (hg : o.guard = none) (sl x : Operand) (t u e : TypeId) (hop : o.op = Op.call { callee := Callee.builtin Builtin.append, args := #[sl, x], argTypes := #[t, u] })
    (q : IntKind) (i : TypeInfo) (z : Value) (ht : P.underlying t = some (.slice e)) (hu : P.underlying u = some (.int q)) (hi : P.info? e = some i) (hz : i.zero = some z) (hs : i.size = 1)
    (base : Nat) (a : Option Addr) (cap n : Nat) (N : Int) (xs : List Value) (hsl : ac.eval sl = .slice a cap cap) (hx : ac.eval x = .int .i64 N) (hN : N = (n : Int)) (hown : w.ownsRow base e 1 (.slice a cap cap) cap xs)
    (h0 : 0 < n) (h63 : cap + n ≤ 1048577) (hb : i.bytes = 8)
    (hK : ∀ c', cap + n ≤ c' → c' ≤ maxLen → wpList P ops Q rest (ac.put o.dst (.slice (some ⟨w.heap.size, 0, none⟩) (cap + n) c')) (w.drew.alloc (.cells (xs.toArray ++ Builtin.zeroCells z.cells n ++ Builtin.zeroCells z.cells (c' - (cap + n))) e))) :
    wpList P ops Q (o :: rest) ac w := by
  refine wpList_plain hg fun K hK' => ?_
  subst hN
  have hrun := run_append_zeros (P := P) w t u o.type e q i z ht hu hi hz hs base a cap n xs hown h0 h63 hb
  unfold Oper.wp
  simp [execOp, hop, resolve, invoke, builtin, hsl, hx, hrun, Result.andThen]
  exact hK' _ _ (by
    have := hK (grownCap w (cap + n) cap e) (grownCap_ge _ _ _ _) (grownCap_le_maxLen _ _ _ _ (by unfold maxLen; omega))
    simpa using this)

/-- Behind Grow: nothing old has turned; the slice lies where it lay, or in a new block. -/
def Grew (base : Nat) (a : Option Addr) (cap n : Nat) (w : World) (e : Ending) (w' : World) : Prop :=
  ∃ a' c', e = .returned (.slice a' 0 c') ∧ n ≤ c' ∧ w'.ownsRow base 3 1 (.slice a' 0 c') 0 [] ∧ w.grownBy w' none ∧ ((a' = a ∧ c' = cap) ∨ ∃ g, a' = some ⟨g, 0, none⟩ ∧ w.heap.size ≤ g)

theorem ownsRow_cap {w : World} {base : Nat} {e : TypeId} {a : Option Addr} {n c : Nat} {xs : List Value} (h : w.ownsRow base e 1 (.slice a n c) n xs) {m : Nat} (hm : m ≤ c) : ∃ ys, w.ownsRow base e 1 (.slice a m c) m ys := by
  rcases h.2 with ⟨hv, _⟩ | ⟨g, cap, cur, hv, hb, hh, _, hcm, hcs, _⟩
  · simp only [Value.slice.injEq] at hv
    obtain ⟨rfl, _, rfl⟩ := hv
    have : m = 0 := by omega
    subst this
    exact ⟨[], World.ownsRow_nil _ _ _ _⟩
  · simp only [Value.slice.injEq] at hv
    obtain ⟨rfl, _, rfl⟩ := hv
    exact ⟨cur.toList.take (m * 1), by simp [hcs]; omega, .inr ⟨g, c, cur, rfl, hb, hh, hm, hcm, hcs, rfl⟩⟩

set_option maxHeartbeats 800000 in
theorem grow_keep (w : World) (base : Nat) (a : Option Addr) (cap n : Nat) (hown : w.ownsRow base 3 1 (.slice a 0 cap) 0 []) (hn : n ≤ cap) (hcm : cap ≤ maxLen) :
    Calls Try.prog 35 #[.slice a 0 cap, .int .i64 n] w (Grew base a cap n w) := by
  unfold maxLen at hcm
  go_enter Try.func35, Try.ntmps35
  go_wp2
  go_ret
  exact ⟨a, cap, rfl, hn, hown, ⟨rfl, rfl, rfl, Nat.le_refl _, fun _ _ _ => rfl⟩, .inl ⟨rfl, rfl⟩⟩

set_option maxHeartbeats 800000 in
theorem grow_new (w : World) (base : Nat) (a : Option Addr) (cap n : Nat) (hown : w.ownsRow base 3 1 (.slice a 0 cap) 0 []) (hn : cap < n) (hnb : n ≤ 1048577) (hbase : base ≤ w.heap.size) :
    Calls Try.prog 35 #[.slice a 0 cap, .int .i64 n] w (Grew base a cap n w) := by
  obtain ⟨inf, hi, hz0, hz1, hz2⟩ := info_parts Try.info3
  obtain ⟨ys, hys⟩ := ownsRow_cap hown (Nat.le_refl cap)
  have hfin : ∀ (arr : Array Value) c', n ≤ c' → c' ≤ maxLen → arr.size = c' → Grew base a cap n w (.returned (.slice (some ⟨w.heap.size, 0, none⟩) 0 c')) (w.alloc (.cells arr 3)).drew := by
    intro arr c' h1 h2 h3
    refine ⟨_, c', rfl, h1, ⟨rfl, .inr ⟨w.heap.size, c', arr, rfl, hbase, heap_alloc_new w _, Nat.zero_le _, h2, by omega, by simp⟩⟩, ?_, .inr ⟨_, rfl, Nat.le_refl _⟩⟩
    exact ⟨rfl, rfl, rfl, by simp, fun k hk _ => Below.heap_alloc w _ k hk⟩
  have hl := hys.1
  rcases hown.2 with ⟨hv, _⟩ | ⟨g, c, cur, hv, _, hh, _⟩
  · simp only [Value.slice.injEq] at hv
    obtain ⟨rfl, _, rfl⟩ := hv
    have H : Hid (∀ (arr : Array Value) c', n ≤ c' → c' ≤ maxLen → arr.size = c' → Grew base none 0 n w (.returned (.slice (some ⟨w.heap.size, 0, none⟩) 0 c')) (w.alloc (.cells arr 3)).drew) := hfin
    have HL : Hid (ys.length = 0 * 1) := hl
    clear hfin hown hl
    go_enter Try.func35, Try.ntmps35
    go_wp2_with (at_builtin; refine wpList_append_zeros _ rfl _ _ 22 3 3 rfl .i64 inf (.int .i64 0) Try.underlying22 Try.underlying3 hi hz0 hz1 base none 0 n _ ys rfl rfl (by omega) hys (by omega) (by omega) hz2 ?_)
    intro c' h1 h2
    go_wp2
    go_ret
    exact H.out _ c' h1 h2 (by have := HL.out; simp [size_zeroCells, this]; omega)
  · simp only [Value.slice.injEq] at hv
    obtain ⟨rfl, _, rfl⟩ := hv
    have H : Hid (∀ (arr : Array Value) c', n ≤ c' → c' ≤ maxLen → arr.size = c' → Grew base (some ⟨g, 0, none⟩) cap n w (.returned (.slice (some ⟨w.heap.size, 0, none⟩) 0 c')) (w.alloc (.cells arr 3)).drew) := hfin
    have HL : Hid (ys.length = cap * 1) := hl
    clear hfin hown hl hh
    go_enter Try.func35, Try.ntmps35
    go_wp2_with (at_builtin; refine wpList_append_zeros _ rfl _ _ 22 3 3 rfl .i64 inf (.int .i64 0) Try.underlying22 Try.underlying3 hi hz0 hz1 base (some ⟨g, 0, none⟩) cap (n - cap) _ ys rfl rfl (by omega) hys (by omega) (by omega) hz2 ?_)
    intro c' h1 h2
    go_wp2
    go_ret
    exact H.out _ c' (by omega) h2 (by have := HL.out; simp [size_zeroCells, this]; omega)

theorem grow_any (w : World) (base : Nat) (a : Option Addr) (cap n : Nat) (hown : w.ownsRow base 3 1 (.slice a 0 cap) 0 []) (hnb : n ≤ 1048577) (hbase : base ≤ w.heap.size) :
    Calls Try.prog 35 #[.slice a 0 cap, .int .i64 n] w (Grew base a cap n w) := by
  by_cases h : n ≤ cap
  · refine grow_keep w base a cap n hown h ?_
    rcases hown.2 with ⟨hv, _⟩ | ⟨g, c, cur, hv, _, _, _, hcm, _⟩
    · simp only [Value.slice.injEq] at hv; omega
    · simp only [Value.slice.injEq] at hv; omega
  · exact grow_new w base a cap n hown (by omega) hnb hbase
end Go.Proofs.Qxb6600184a
