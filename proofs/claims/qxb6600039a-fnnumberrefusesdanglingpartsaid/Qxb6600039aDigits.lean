/-
  isDigit, digits, walked.
-/
import Derived.Test.Qxb6600039aNew
import Derived.Deep.Cut
namespace Go.Proofs.Qxb6600039a
open Go.RowKit Sc

def dig (c : Int) : Bool := decide (48 ≤ c) && decide (c ≤ 57)
theorem dig_true {c : Int} (h : dig c = true) : 48 ≤ c ∧ c ≤ 57 := by simpa [dig] using h
theorem dig_false {c : Int} (h : dig c = false) : c < 48 ∨ (48 ≤ c ∧ 57 < c) := by
  simp only [dig, Bool.and_eq_false_iff, decide_eq_false_iff_not] at h
  omega

theorem isDigit_yes (c : Int) (w : World) (h : dig c = true) : Calls Try.prog 33 #[.int .u8 c] w fun e w' => e = .returned (.bool true) ∧ w = w' := by
  obtain ⟨h1, h2⟩ := dig_true h
  clear h
  go_enter Try.func33, Try.ntmps33
  go_wp2
  go_ret
  exact ⟨rfl, rfl⟩

theorem isDigit_no (c : Int) (w : World) (h : dig c = false) : Calls Try.prog 33 #[.int .u8 c] w fun e w' => e = .returned (.bool false) ∧ w = w' := by
  rcases dig_false h with h1 | ⟨h1, h2⟩ <;> clear h <;>
    (go_enter Try.func33, Try.ntmps33
     go_wp2
     go_ret
     first | exact ⟨rfl, rfl⟩ | exact ⟨by simp; omega, rfl⟩)

theorem jdig_any (c : Int) (w : World) : Calls Try.prog 22 #[.int .u8 c] w fun e w' => e = .returned (.bool (dig c)) ∧ w = w' := by
  cases h : dig c
  · rcases dig_false h with h1 | ⟨h1, h2⟩ <;> clear h <;>
      (go_enter Try.func22, Try.ntmps22
       go_wp2
       go_ret
       first | exact ⟨rfl, rfl⟩ | exact ⟨by simp; omega, rfl⟩)
  · obtain ⟨h1, h2⟩ := dig_true h
    clear h
    go_enter Try.func22, Try.ntmps22
    go_wp2
    go_ret
    exact ⟨rfl, rfl⟩

/-- Digits from i up to j, and none there. -/
structure Run (d : Nat → Int) (n i j : Nat) : Prop where
  le : i ≤ j
  len : j ≤ n
  yes : ∀ k, i ≤ k → k < j → dig (d k) = true
  no : j < n → dig (d j) = false

set_option maxHeartbeats 1600000 in
theorem digits_any (w : World) (S n c b off i j : Nat) (d : Nat → Int) (hn : n ≤ 1048576) (h0 : w.cell? ⟨S, 0, none⟩ = some (.slice (some ⟨b, off, none⟩) n c)) (hc : ∀ k, k < n → w.cell? ⟨b, off + k, none⟩ = some (.int .u8 (d k))) (hr : Run d n i j) :
    Calls Try.prog 32 #[.pointer (some ⟨S, 0, none⟩), .int .i64 i] w fun e w' => e = .returned (.int .i64 j) ∧ w = w' := by
  have HC : Hid (∀ k, k < n → w.cell? ⟨b, off + k, none⟩ = some (.int .u8 (d k))) := hc
  have HR : Hid (Run d n i j) := hr
  have e1 := hr.le
  have e2 := hr.len
  clear hc hr
  go_enter Try.func32, Try.ntmps32
  go_wp2
  go_loopg [1] (j - i) (fun g s1 wr => ∃ k : Nat, i ≤ k ∧ k ≤ j ∧ g = j - k ∧ s1 = .int .i64 k ∧ wr = w)
  case atStart => exact ⟨i, Nat.le_refl _, e1, rfl, rfl, rfl⟩
  case round =>
    obtain ⟨k, k1, k2, hg, rfl, rfl⟩ := hrel
    by_cases hkj : k < j
    · have hz : (k : Int) < (n : Int) := by omega
      have g1 := HC.out k (by omega)
      have hd := HR.out.yes k k1 hkj
      go_wp2_with fail
      refine (isDigit_yes _ _ hd).mono ?_
      rintro e w' ⟨rfl, rfl⟩
      go_wp2
      go_roundg (j - (k + 1))
      case measure => go_light; omega
      case rel => go_light; exact ⟨k + 1, by omega, by omega, rfl, by go_num, rfl⟩
    · obtain rfl : k = j := by omega
      by_cases hjn : k < n
      · have hz : (k : Int) < (n : Int) := by omega
        have g1 := HC.out k (by omega)
        have hd := HR.out.no hjn
        go_wp2_with fail
        refine (isDigit_no _ _ hd).mono ?_
        rintro e w' ⟨rfl, rfl⟩
        go_wp2
        go_ret
        exact ⟨rfl, rfl⟩
      · have hz : ¬ (k : Int) < (n : Int) := by omega
        go_wp2
        go_ret
        exact ⟨rfl, rfl⟩
end Go.Proofs.Qxb6600039a
