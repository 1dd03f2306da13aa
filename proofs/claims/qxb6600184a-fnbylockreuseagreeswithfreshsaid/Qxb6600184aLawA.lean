/-
  FnByLockReuseAgreesWithFresh: the checks.
-/
import Derived.Test.Qxb6600184aLaw0
namespace Go.Proofs.Qxb6600184a
open Go.RowKit
set_option linter.unusedVariables false

set_option maxRecDepth 100000 in
set_option maxHeartbeats 6400000 in
theorem lawA (w : World) (a1 a2 a3 a4 a5 a6 a7 a8 : Option Addr) (n1 n2 n3 n4 n5 n6 n7 n8 c1 c2 c3 c4 c5 c6 c7 c8 : Nat) (f1 f2 f5 f6 : Nat → Int) (N1 N2 : Nat → ByteArray) (xl1 xl2 : Nat → Nat) (X1 X2 : Nat → Nat → ByteArray)
    (S1 : Side w a1 a2 a3 a4 n1 n2 n3 n4 c1 c2 c3 c4 f1 f2 N1 xl1 X1) (S2 : Side w a5 a6 a7 a8 n5 n6 n7 n8 c5 c6 c7 c8 f5 f6 N2 xl2 X2)
    (hnext : n3 = n1 → n4 = n2 → n7 = n5 → n8 = n6 → (n1 ≤ 4096 ∧ n2 ≤ 4096 ∧ n3 ≤ 4096 ∧ n4 ≤ 4096 ∧ pos xl1 n4 ≤ 4096) → (n5 ≤ 4096 ∧ n6 ≤ 4096 ∧ n7 ≤ 4096 ∧ n8 ≤ 4096 ∧ pos xl2 n8 ≤ 4096) → FromL (lC 5) w w (.slice a1 n1 c1) (.slice a2 n2 c2) (.slice a3 n3 c3) (.slice a4 n4 c4) (.slice a5 n5 c5) (.slice a6 n6 c6) (.slice a7 n7 c7) (.slice a8 n8 c8) undef undef undef undef undef undef undef undef undef undef undef undef undef) :
    Calls Try.prog 4 #[.slice a1 n1 c1, .slice a2 n2 c2, .slice a3 n3 c3, .slice a4 n4 c4, .slice a5 n5 c5, .slice a6 n6 c6, .slice a7 n7 c7, .slice a8 n8 c8] w (LawPost w) := by
  have H1 := hidd S1
  have H2 := hidd S2
  have HN := hidd hnext
  clear S1 S2 hnext
  go_enter Try.func4, Try.ntmps4
  go_wp2_with fail
  refine (zz_any w a1 a2 a3 a4 a5 a6 a7 a8 n1 n2 n3 n4 n5 n6 n7 n8 c1 c2 c3 c4 c5 c6 c7 c8 f1 f2 f5 f6 N1 N2 xl1 xl2 X1 X2 H1.out H2.out).mono ?_
  rintro e w' ⟨⟨r, rfl⟩, rfl⟩
  cases r with
  | false =>
    go_wp2
    go_ret
    exact ⟨rfl, World.Since.refl _ _⟩
  | true =>
  go_wp2_with fail
  refine (side_splitB w a1 a2 a3 a4 n1 n2 n3 n4 c1 c2 c3 c4 f1 f2 N1 xl1 X1 H1.out).mono ?_
  rintro e w' ⟨⟨y1, rfl, hy1, hp1⟩, rfl⟩
  go_wp2_with fail
  refine (side_splitB w a5 a6 a7 a8 n5 n6 n7 n8 c5 c6 c7 c8 f5 f6 N2 xl2 X2 H2.out).mono ?_
  rintro e w' ⟨⟨y2, rfl, hy2, hp2⟩, rfl⟩
  have HP1 := hidd hp1
  have HP2 := hidd hp2
  clear hp1 hp2
  by_cases hb : y1 + y2 ≤ 1048576
  case neg =>
    have q0 : (1048576 : Int) < (y1 : Int) + (y2 : Int) := by omega
    go_wp2
    go_ret
    exact ⟨rfl, World.Since.refl _ _⟩
  have q0 : ¬ (1048576 : Int) < (y1 : Int) + (y2 : Int) := by omega
  by_cases e1 : n3 = n1
  case neg =>
    have q1 : ¬ (n3 : Int) = (n1 : Int) := by omega
    go_wp2
    go_ret
    exact ⟨rfl, World.Since.refl _ _⟩
  by_cases e2 : n4 = n2
  case neg =>
    have q1 : (n3 : Int) = (n1 : Int) := by omega
    have q2 : ¬ (n4 : Int) = (n2 : Int) := by omega
    go_wp2
    go_ret
    exact ⟨rfl, World.Since.refl _ _⟩
  by_cases e3 : n7 = n5
  case neg =>
    have q1 : (n3 : Int) = (n1 : Int) := by omega
    have q2 : (n4 : Int) = (n2 : Int) := by omega
    have q3 : ¬ (n7 : Int) = (n5 : Int) := by omega
    go_wp2
    go_ret
    exact ⟨rfl, World.Since.refl _ _⟩
  by_cases e4 : n8 = n6
  case neg =>
    have q1 : (n3 : Int) = (n1 : Int) := by omega
    have q2 : (n4 : Int) = (n2 : Int) := by omega
    have q3 : (n7 : Int) = (n5 : Int) := by omega
    have q4 : ¬ (n8 : Int) = (n6 : Int) := by omega
    go_wp2
    go_ret
    exact ⟨rfl, World.Since.refl _ _⟩
  have HX := HN.out e1 e2 e3 e4 (HP1.out (by omega)) (HP2.out (by omega))
  clear HN HP1 HP2 H1 H2
  subst e1 e2 e3 e4
  go_upto_region 9 with fail
  have hT := HX
  have hC : lC 5 = lC 5 := rfl
  conv at hC => rhs; whnf
  unfold FromL at hT
  rw [hC] at hT
  simp only [hdZ, tlZ] at hT
  rename_i hK
  exact hT _ _ _ _ _ _ _ _ _ _ _ _ _ _ _ _ _ _ _ _ _ _ _ _ _ _ _ _ _ _ _ _ _ _ _ _ _ _ _ _ _ _ _ _ _ _ _ _ _ _ _ _ _ _ _ _ _ _ _ _ _ _ _ _ _ _ _ _ _ _ _ _ _ _ _ _ _ _ _ _ _ _ _ _ _ _ _ _ _ _ _ _ _ _ _ _ _ _ _ _ _ _ _ _ _ _ _ _ _ _ _ _ _ _ _ _ _ _ _ _ _ _ _ _ _ _ _ _ _ _ _ _ _ _ _ _ _ _ _ hK
end Go.Proofs.Qxb6600184a
