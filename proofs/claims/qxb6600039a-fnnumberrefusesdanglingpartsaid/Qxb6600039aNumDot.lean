/-
  (*Scanner).Number: refused behind its integer part.
-/
import Derived.Test.Qxb6600039aNumber
import Derived.Deep.CutBlock
namespace Go.Proofs.Qxb6600039a
open Go.RowKit Sc

/-- The integer part, from i0 up to i1. -/
def IntPart (d : Nat → Int) (n i0 i1 : Nat) : Prop :=
  i0 < n ∧ (((d i0 == 48) = true ∧ i1 = i0 + 1) ∨ ((d i0 == 48) = false ∧ 49 ≤ d i0 ∧ d i0 ≤ 57 ∧ Run d n i0 i1))

/-- A fraction or none, from i1 up to i2. -/
def FracPart (d : Nat → Int) (n i1 i2 : Nat) : Prop :=
  i1 < n ∧ (((d i1 == 46) = false ∧ i2 = i1) ∨ ((d i1 == 46) = true ∧ i1 + 1 < n ∧ dig (d (i1 + 1)) = true ∧ Run d n (i1 + 1) i2))

/-- No digit at i. -/
def NoDig (d : Nat → Int) (n i : Nat) : Prop := n = i ∨ (i < n ∧ dig (d i) = false)

set_option maxRecDepth 100000 in
set_option maxHeartbeats 3200000 in
theorem numDot (w : World) (S n c b off i0 i1 : Nat) (d : Nat → Int) (I : NumIn w S n c b off d) (hg : Neg d n i0) (hp : IntPart d n i0 i1) (h46 : i1 < n ∧ (d i1 == 46) = true) (hs : NoDig d n (i1 + 1)) :
    Calls Try.prog 26 #[.pointer (some ⟨S, 0, none⟩)] w fun e w' => e = .returned (.bool false) ∧ w = w' := by
  have hn := I.hn
  have h0 := I.h0
  have h1 := I.h1
  have HI : Hid (NumIn w S n c b off d) := I
  have HC : Hid (∀ k, k < n → w.cell? ⟨b, off + k, none⟩ = some (.int .u8 (d k))) := I.hc
  have HG : Hid (Neg d n i0) := hg
  have HP : Hid (IntPart d n i0 i1) := hp
  clear I hg hp
  go_enter Try.func26, Try.ntmps26
  go_upto_region 2 with fail
  go_cut [24] from 4 (fun s24 wx => s24 = .bool (decide (i0 = 1)) ∧ wx = w)
  case first =>
    rcases HG.out with ⟨e0, e1 | ⟨hp, h45⟩⟩ | ⟨e0, hp, h45⟩
    · exfalso
      have := HP.out.1
      omega
    · subst e0
      have g0 : w.cell? ⟨b, off, none⟩ = some (.int .u8 (d 0)) := HC.out 0 hp
      have hz : (0 : Int) < (n : Int) := by omega
      go_wp2
      go_meet
      exact ⟨rfl, rfl⟩
    · subst e0
      have g0 : w.cell? ⟨b, off, none⟩ = some (.int .u8 (d 0)) := HC.out 0 hp
      have hz : (0 : Int) < (n : Int) := by omega
      go_wp2
      go_meet
      exact ⟨rfl, rfl⟩
  obtain ⟨rfl, rfl⟩ := hcut
  go_upto_if 24 with fail
  go_cut [3] from 4 (fun s3 wx => s3 = .int .i64 i0 ∧ wx = wc)
  case first =>
    rcases HG.out with ⟨e0, _⟩ | ⟨e0, _, _⟩ <;> subst e0
    · have t0 : decide ((0 : Nat) = 1) = false := rfl
      go_wp2
      go_meet
      exact ⟨rfl, rfl⟩
    · have t0 : decide ((1 : Nat) = 1) = true := rfl
      go_wp2
      go_meet
      exact ⟨rfl, rfl⟩
  obtain ⟨rfl, rfl⟩ := hcut
  go_upto_block 0 with fail
  go_cut [3] from 4 (fun s3 wx => s3 = .int .i64 i1 ∧ wx = wc)
  case first =>
    obtain ⟨hlt, hp⟩ := HP.out
    have hz : (i0 : Int) < (n : Int) := by omega
    have g0 := HC.out i0 hlt
    rcases hp with ⟨t1, e1⟩ | ⟨t1, t2, t3, hr⟩
    · subst e1
      go_wp2
      go_meet
      exact ⟨by go_num, rfl⟩
    · have HR : Hid (Run d n i0 i1) := hr
      clear hr
      go_wp2_with fail
      refine (digits_any _ S n c b off i0 i1 d HI.out.hn HI.out.h0 HI.out.hc HR.out).mono ?_
      rintro e w' ⟨rfl, rfl⟩
      go_wp2
      go_meet
      exact ⟨rfl, rfl⟩
  obtain ⟨rfl, rfl⟩ := hcut
  obtain ⟨hlt, t46⟩ := h46
  have g1 := HC.out i1 hlt
  have hz : (i1 : Int) < (n : Int) := by omega
  rcases hs with e | ⟨hlt2, hd⟩
  · have t2 : ((i1 : Int) + 1 == (n : Int)) = true := by simp; omega
    go_wp2
    go_ret
    exact ⟨rfl, rfl⟩
  · have t2 : ((i1 : Int) + 1 == (n : Int)) = false := by simp; omega
    have hz2 : (i1 : Int) + 1 < (n : Int) := by omega
    have g2 := HC.out (i1 + 1) hlt2
    go_wp2_with fail
    refine (isDigit_no _ _ hd).mono ?_
    rintro e w' ⟨rfl, rfl⟩
    go_wp2
    go_ret
    exact ⟨rfl, rfl⟩
end Go.Proofs.Qxb6600039a
