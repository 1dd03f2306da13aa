/-
  (*Scanner).Number, the ways on which it refuses.
-/
import Derived.Test.Qxb6600039aDigits
namespace Go.Proofs.Qxb6600039a
open Go.RowKit Sc

/-- The minus sign: i0 is the place behind it. -/
def Neg (d : Nat → Int) (n i0 : Nat) : Prop :=
  (i0 = 0 ∧ (n = 0 ∨ (0 < n ∧ (d 0 == 45) = false))) ∨ (i0 = 1 ∧ 0 < n ∧ (d 0 == 45) = true)

/-- What every way shares. -/
structure NumIn (w : World) (S n c b off : Nat) (d : Nat → Int) : Prop where
  hn : n ≤ 1048576
  h0 : w.cell? ⟨S, 0, none⟩ = some (.slice (some ⟨b, off, none⟩) n c)
  h1 : w.cell? ⟨S, 1, none⟩ = some (.int .i64 0)
  hc : ∀ k, k < n → w.cell? ⟨b, off + k, none⟩ = some (.int .u8 (d k))

set_option maxRecDepth 100000 in
set_option maxHeartbeats 1600000 in
theorem numA (w : World) (S n c b off i0 : Nat) (d : Nat → Int) (I : NumIn w S n c b off d) (hg : Neg d n i0) (hs : n = i0 ∨ (i0 < n ∧ dig (d i0) = false)) :
    Calls Try.prog 26 #[.pointer (some ⟨S, 0, none⟩)] w fun e w' => e = .returned (.bool false) ∧ w = w' := by
  have hn := I.hn
  have h0 := I.h0
  have h1 := I.h1
  have HC : Hid (∀ k, k < n → w.cell? ⟨b, off + k, none⟩ = some (.int .u8 (d k))) := I.hc
  have HG : Hid (Neg d n i0) := hg
  have HS : Hid (n = i0 ∨ (i0 < n ∧ dig (d i0) = false)) := hs
  clear I hg hs
  go_enter Try.func26, Try.ntmps26
  go_upto_region 2 with fail
  go_cut [24] from 4 (fun s24 wx => s24 = .bool (decide (i0 = 1)) ∧ wx = w)
  case first =>
    rcases HG.out with ⟨e0, rfl | ⟨hp, h45⟩⟩ | ⟨e0, hp, h45⟩
    · subst e0
      go_wp2
      go_meet
      exact ⟨rfl, rfl⟩
    · subst e0
      have g0 : w.cell? ⟨b, off, none⟩ = some (.int .u8 (d 0)) := HC.out 0 hp
      have hz : (0 : Int) < (n : Int) := by omega
      go_wp2
      go_meet
      exact ⟨rfl, rfl⟩
    · subst e0
      have g0 : w.cell? ⟨b, off, none⟩ = some (.int .u8 (d 0)) := HC.out 0 hp
      have hz : (0 : Int) < (n : Int) := by omega
      go_wp2
      go_meet
      exact ⟨rfl, rfl⟩
  case rest =>
    obtain ⟨rfl, rfl⟩ := hcut
    go_upto_if 24 with fail
    go_cut [3] from 4 (fun s3 wx => s3 = .int .i64 i0 ∧ wx = wc)
    case first =>
      rcases HG.out with ⟨e0, _⟩ | ⟨e0, _, _⟩ <;> subst e0
      · have t0 : decide ((0 : Nat) = 1) = false := rfl
        go_wp2
        go_meet
        exact ⟨rfl, rfl⟩
      · have t0 : decide ((1 : Nat) = 1) = true := rfl
        go_wp2
        go_meet
        exact ⟨rfl, rfl⟩
    case rest =>
      obtain ⟨rfl, rfl⟩ := hcut
      rcases HS.out with e | ⟨hlt, hd⟩
      · have hz : ¬ (i0 : Int) < (n : Int) := by omega
        go_wp2
        go_ret
        exact ⟨rfl, rfl⟩
      · have hz : (i0 : Int) < (n : Int) := by omega
        have g0 := HC.out i0 hlt
        rcases dig_false hd with k1 | ⟨k1, k2⟩
        · have t1 : (d i0 == 48) = false := by simp; omega
          have t2 : ¬ 49 ≤ d i0 := by omega
          clear hd
          go_wp2
          go_ret
          exact ⟨rfl, rfl⟩
        · have t1 : (d i0 == 48) = false := by simp; omega
          have t2 : 49 ≤ d i0 := by omega
          have t3 : ¬ d i0 ≤ 57 := by omega
          clear hd
          go_wp2
          go_ret
          exact ⟨rfl, rfl⟩
end Go.Proofs.Qxb6600039a
