/-
  b1GraphFits: where it says yes, the arguments describe a graph.
-/
import Derived.Test.Qxb6600184aBase
namespace Go.Proofs.Qxb6600184a
open Go.RowKit

structure Fit (v : Int) (n1 n2 n3 n4 : Nat) (f1 f2 f4 : Nat → Int) : Prop where
  l1 : n1 ≤ 65536
  l2 : n2 ≤ 65536
  l4 : n4 ≤ 65536
  v0 : 0 ≤ v
  v1 : v ≤ 65536
  pos : 0 < n1
  first : f1 0 = 0
  last : f1 (n1 - 1) = n2
  same : n3 = n2
  mono : ∀ s, s + 1 < n1 → f1 s ≤ f1 (s + 1)
  items : ∀ i, i < n2 → 0 ≤ f2 i ∧ f2 i < v
  mems : ∀ i, i < n4 → 0 ≤ f4 i ∧ f4 i < v

def FitsPost (v : Int) (n1 n2 n3 n4 : Nat) (f1 f2 f4 : Nat → Int) (w : World) (e : Ending) (w' : World) : Prop :=
  ∃ b, e = .returned (.bool b) ∧ (b = true → Fit v n1 n2 n3 n4 f1 f2 f4) ∧ w.Since w.heap.size w'

theorem fits_no {v : Int} {n1 n2 n3 n4 : Nat} {f1 f2 f4 : Nat → Int} {w : World} : FitsPost v n1 n2 n3 n4 f1 f2 f4 w (.returned (.bool false)) w := ⟨false, rfl, (fun h => by cases h), World.Since.refl _ _⟩

/-- The sizes say no. -/
theorem fits_sizes (v : Int) (a1 a2 a3 a4 : Option Addr) (n1 n2 n3 n4 c1 c2 c3 c4 : Nat) (f1 f2 f4 : Nat → Int) (w : World) (_h1 : n1 ≤ maxLen) (_h2 : n2 ≤ maxLen) (_h3 : n3 ≤ maxLen) (_h4 : n4 ≤ maxLen)
    (h : ¬ (n1 ≤ 65536 ∧ n2 ≤ 65536 ∧ n3 ≤ 65536 ∧ n4 ≤ 65536)) :
    Calls Try.prog 20 #[.int .i64 v, .slice a1 n1 c1, .slice a2 n2 c2, .slice a3 n3 c3, .slice a4 n4 c4] w (FitsPost v n1 n2 n3 n4 f1 f2 f4 w) := by
  unfold maxLen at *
  by_cases k1 : (65536 : Int) < n1
  · clear h
    go_enter Try.func20, Try.ntmps20
    go_wp2
    go_ret
    exact fits_no
  by_cases k2 : (65536 : Int) < n2
  · clear h
    go_enter Try.func20, Try.ntmps20
    go_wp2
    go_ret
    exact fits_no
  by_cases k3 : (65536 : Int) < n3
  · clear h
    go_enter Try.func20, Try.ntmps20
    go_wp2
    go_ret
    exact fits_no
  have k4 : (65536 : Int) < n4 := by omega
  clear h
  go_enter Try.func20, Try.ntmps20
  go_wp2
  go_ret
  exact fits_no

/-- The sum of the sizes, or the number of vertices, says no; or there is no site's start at all. -/
theorem fits_sum (v : Int) (a1 a2 a3 a4 : Option Addr) (n1 n2 n3 n4 c1 c2 c3 c4 : Nat) (f1 f2 f4 : Nat → Int) (w : World)
    (k1 : n1 ≤ 65536) (k2 : n2 ≤ 65536) (k3 : n3 ≤ 65536) (k4 : n4 ≤ 65536)
    (h : ¬ (8 * (n1 + n2 + n3 + n4) ≤ 1048576 ∧ 0 ≤ v ∧ v ≤ 65536 ∧ 0 < n1)) :
    Calls Try.prog 20 #[.int .i64 v, .slice a1 n1 c1, .slice a2 n2 c2, .slice a3 n3 c3, .slice a4 n4 c4] w (FitsPost v n1 n2 n3 n4 f1 f2 f4 w) := by
  by_cases k5 : 1048576 < 8 * (n1 + n2 + n3 + n4)
  · clear h
    go_enter Try.func20, Try.ntmps20
    go_wp2
    go_ret
    exact fits_no
  by_cases k6 : v < 0
  · clear h
    go_enter Try.func20, Try.ntmps20
    go_wp2
    go_ret
    exact fits_no
  by_cases k7 : 65536 < v
  · clear h
    go_enter Try.func20, Try.ntmps20
    go_wp2
    go_ret
    exact fits_no
  have k8 : n1 = 0 := by omega
  subst k8
  clear h
  go_enter Try.func20, Try.ntmps20
  go_wp2
  go_ret
  exact fits_no

/-- The ends of the list of starts say no, or the number of join times. -/
theorem fits_ends (v : Int) (b1 o1 : Nat) (a2 a3 a4 : Option Addr) (n1 n2 n3 n4 c1 c2 c3 c4 : Nat) (f1 f2 f4 : Nat → Int) (w : World)
    (k1 : n1 ≤ 65536) (k2 : n2 ≤ 65536) (k3 : n3 ≤ 65536) (k4 : n4 ≤ 65536) (k5 : 8 * (n1 + n2 + n3 + n4) ≤ 1048576) (k6 : 0 ≤ v) (k7 : v ≤ 65536) (k8 : 0 < n1)
    (g0 : w.cell? ⟨b1, o1, none⟩ = some (.int .i64 (f1 0))) (g1 : w.cell? ⟨b1, o1 + (n1 - 1), none⟩ = some (.int .i64 (f1 (n1 - 1))))
    (h : ¬ (f1 0 = 0 ∧ f1 (n1 - 1) = n2 ∧ n3 = n2)) :
    Calls Try.prog 20 #[.int .i64 v, .slice (some ⟨b1, o1, none⟩) n1 c1, .slice a2 n2 c2, .slice a3 n3 c3, .slice a4 n4 c4] w (FitsPost v n1 n2 n3 n4 f1 f2 f4 w) := by
  have k8' : ((n1 : Int) == 0) = false := by simp; omega
  have H : Hid (¬ (f1 0 = 0 ∧ f1 (n1 - 1) = n2 ∧ n3 = n2)) := h
  clear h
  cases k9 : (f1 0 != 0)
  · cases k10 : (f1 (n1 - 1) != (n2 : Int))
    · have k11 : ((n3 : Int) != (n2 : Int)) = true := by
        have h := H.out
        simp at k9 k10 ⊢
        intro e; exact h ⟨k9, k10, by omega⟩
      go_enter Try.func20, Try.ntmps20
      go_wp2
      go_ret
      exact fits_no
    · go_enter Try.func20, Try.ntmps20
      go_wp2
      go_ret
      exact fits_no
  · go_enter Try.func20, Try.ntmps20
    go_wp2
    go_ret
    exact fits_no

end Go.Proofs.Qxb6600184a
