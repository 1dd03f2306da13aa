/-
  zzBytes, lookedFits, spansBytes (seat 061a): the bounds.
-/
import Derived.Test.Qxb6600061aSpans
namespace Go.Proofs.Qxb6600061a
open Go.RowKit

/-- The call returned a bool; if it is true, p holds. -/
def Yes (e : Ending) (p : Prop) : Prop := ∃ r, e = .returned (.bool r) ∧ (r = true → p)

/-- How many seqs the first n spans watch. -/
def tot (S : Nat → Sp) : Nat → Nat
  | 0 => 0
  | n + 1 => tot S n + (S n).wl.length

theorem tot_mono (S : Nat → Sp) {i n : Nat} (h : i ≤ n) : tot S i ≤ tot S n := by
  induction n with
  | zero => obtain rfl : i = 0 := by omega
            exact Nat.le_refl _
  | succ n ih =>
    by_cases e : i = n + 1
    · subst e; exact Nat.le_refl _
    · exact Nat.le_trans (ih (by omega)) (Nat.le_add_right _ _)

theorem tot_at (S : Nat → Sp) {i n : Nat} (h : i < n) : (S i).wl.length ≤ tot S n :=
  Nat.le_trans (Nat.le_add_left _ _) (tot_mono S (Nat.succ_le_of_lt h))

set_option maxHeartbeats 1600000 in
theorem bytes7_any (w : World) (a a1 : Option Addr) (n c n1 c1 : Nat) (S : Nat → Sp) (hn : n ≤ maxLen) (hn1 : n1 ≤ maxLen) (hS : ∀ i, i < n → (S i).wl.length ≤ maxLen) (h : IsSps4 w a n S) :
    Calls Try.prog 27 #[.slice a n c, .slice a1 n1 c1] w fun e w' => Yes e (n + tot S n + n1 ≤ 1048576) ∧ w = w' := by
  unfold maxLen at hn hn1 hS
  by_cases g0 : n ≤ 1048576
  · have g0' : ¬ (1048576 : Int) < (n : Int) := by omega
    go_enter Try.func27, Try.ntmps27
    go_wp2
    go_loopg [6, 5] n (fun g i t wr => ∃ k : Nat, k ≤ n ∧ g = n - k ∧ i = .int .i64 k ∧ t = .int .i64 ((n + tot S k : Nat) : Int) ∧ n + tot S k ≤ 1048576 ∧ wr = w)
    case atStart => exact ⟨0, Nat.zero_le _, rfl, rfl, rfl, g0, rfl⟩
    case round =>
      obtain ⟨k, hk, rfl, rfl, rfl, ht, rfl⟩ := hrel
      by_cases hlt : k < n
      · obtain ⟨b, off, rfl, hc⟩ := h (by omega)
        have hz : (k : Int) < (n : Int) := by omega
        obtain ⟨hb, c0, c1, c2, wa, wc, c3, -, -, -⟩ := hc k hlt
        have hm := hS k hlt
        clear hc h hS c0 c1 c2
        obtain ⟨L, hL⟩ : ∃ L, L = (S k).wl.length := ⟨_, rfl⟩
        have hT : Hid (tot S (k + 1) = tot S k + L) := by rw [hL]; exact rfl
        rw [← hL] at c3 hm
        obtain ⟨T, hTk⟩ : ∃ T, T = tot S k := ⟨_, rfl⟩
        rw [← hTk] at ht ⊢
        have hT2 : Hid (tot S (k + 1) = T + L) := by rw [hTk]; exact hT.out
        have hTk' : Hid (T = tot S k) := hTk
        clear hL hT hTk
        by_cases g1 : L ≤ 1048576
        · by_cases g2 : n + T + L ≤ 1048576
          · have g1' : ¬ (1048576 : Int) < (L : Int) := by omega
            have g2' : ¬ (1048576 : Int) < (n : Int) + (T : Int) + (L : Int) := by omega
            go_wp2
            go_roundg (n - (k + 1))
            case measure => go_light; omega
            case rel => go_light; exact ⟨k + 1, by omega, rfl, by go_num, by rw [hT2.out]; go_num, by rw [hT2.out]; omega, rfl⟩
          · have g1' : ¬ (1048576 : Int) < (L : Int) := by omega
            have g2' : (1048576 : Int) < (n : Int) + (T : Int) + (L : Int) := by omega
            go_wp2
            go_ret
            exact ⟨⟨_, rfl, fun h => by cases h⟩, rfl⟩
        · have g1' : (1048576 : Int) < (L : Int) := by omega
          go_wp2
          go_ret
          exact ⟨⟨_, rfl, fun h => by cases h⟩, rfl⟩
      · obtain rfl : k = n := by omega
        obtain ⟨T, hTk⟩ : ∃ T, T = tot S k := ⟨_, rfl⟩
        rw [← hTk] at ht ⊢
        have hTk' : Hid (T = tot S k) := hTk
        clear hTk
        by_cases g1 : n1 ≤ 1048576
        · have g1' : ¬ (1048576 : Int) < (n1 : Int) := by omega
          by_cases g2 : k + T + n1 ≤ 1048576
          · have g2' : ¬ (1048576 : Int) < (k : Int) + (T : Int) + (n1 : Int) := by omega
            go_wp2
            go_ret
            exact ⟨⟨_, rfl, fun _ => by rw [← hTk'.out]; exact g2⟩, rfl⟩
          · have g2' : (1048576 : Int) < (k : Int) + (T : Int) + (n1 : Int) := by omega
            go_wp2
            go_ret
            exact ⟨⟨_, rfl, fun h => by cases h⟩, rfl⟩
        · have g1' : (1048576 : Int) < (n1 : Int) := by omega
          go_wp2
          go_ret
          exact ⟨⟨_, rfl, fun h => by cases h⟩, rfl⟩
  · have g0' : (1048576 : Int) < (n : Int) := by omega
    go_enter Try.func27, Try.ntmps27
    go_wp2
    go_ret
    exact ⟨⟨_, rfl, fun h => by cases h⟩, rfl⟩
set_option maxHeartbeats 1600000 in
theorem bytes3_any (w : World) (a a1 a2 : Option Addr) (n c n1 c1 n2 c2 : Nat) (S : Nat → Sp) (hn : n ≤ maxLen) (hn1 : n1 ≤ maxLen) (hn2 : n2 ≤ maxLen) (hS : ∀ i, i < n → (S i).wl.length ≤ maxLen) (h : IsSps4 w a n S) :
    Calls Try.prog 10 #[.slice a n c, .slice a1 n1 c1, .slice a2 n2 c2] w fun e w' => Yes e (n + tot S n + n1 + n2 ≤ 1048576) ∧ w = w' := by
  unfold maxLen at hn hn1 hn2 hS
  by_cases g0 : n ≤ 1048576
  · have g0' : ¬ (1048576 : Int) < (n : Int) := by omega
    go_enter Try.func10, Try.ntmps10
    go_wp2
    go_loopg [8, 7] n (fun g i t wr => ∃ k : Nat, k ≤ n ∧ g = n - k ∧ i = .int .i64 k ∧ t = .int .i64 ((n + tot S k : Nat) : Int) ∧ n + tot S k ≤ 1048576 ∧ wr = w)
    case atStart => exact ⟨0, Nat.zero_le _, rfl, rfl, rfl, g0, rfl⟩
    case round =>
      obtain ⟨k, hk, rfl, rfl, rfl, ht, rfl⟩ := hrel
      by_cases hlt : k < n
      · obtain ⟨b, off, rfl, hc⟩ := h (by omega)
        have hz : (k : Int) < (n : Int) := by omega
        obtain ⟨hb, c0, c1, c2, wa, wc, c3, -, -, -⟩ := hc k hlt
        have hm := hS k hlt
        clear hc h hS c0 c1 c2
        obtain ⟨L, hL⟩ : ∃ L, L = (S k).wl.length := ⟨_, rfl⟩
        have hT : Hid (tot S (k + 1) = tot S k + L) := by rw [hL]; exact rfl
        rw [← hL] at c3 hm
        obtain ⟨T, hTk⟩ : ∃ T, T = tot S k := ⟨_, rfl⟩
        rw [← hTk] at ht ⊢
        have hT2 : Hid (tot S (k + 1) = T + L) := by rw [hTk]; exact hT.out
        have hTk' : Hid (T = tot S k) := hTk
        clear hL hT hTk
        by_cases g1 : L ≤ 1048576
        · by_cases g2 : n + T + L ≤ 1048576
          · have g1' : ¬ (1048576 : Int) < (L : Int) := by omega
            have g2' : ¬ (1048576 : Int) < (n : Int) + (T : Int) + (L : Int) := by omega
            go_wp2
            go_roundg (n - (k + 1))
            case measure => go_light; omega
            case rel => go_light; exact ⟨k + 1, by omega, rfl, by go_num, by rw [hT2.out]; go_num, by rw [hT2.out]; omega, rfl⟩
          · have g1' : ¬ (1048576 : Int) < (L : Int) := by omega
            have g2' : (1048576 : Int) < (n : Int) + (T : Int) + (L : Int) := by omega
            go_wp2
            go_ret
            exact ⟨⟨_, rfl, fun h => by cases h⟩, rfl⟩
        · have g1' : (1048576 : Int) < (L : Int) := by omega
          go_wp2
          go_ret
          exact ⟨⟨_, rfl, fun h => by cases h⟩, rfl⟩
      · obtain rfl : k = n := by omega
        obtain ⟨T, hTk⟩ : ∃ T, T = tot S k := ⟨_, rfl⟩
        rw [← hTk] at ht ⊢
        have hTk' : Hid (T = tot S k) := hTk
        clear hTk
        by_cases g1 : n1 ≤ 1048576
        · have g1' : ¬ (1048576 : Int) < (n1 : Int) := by omega
          by_cases g2 : k + T + n1 ≤ 1048576
          · have g2' : ¬ (1048576 : Int) < (k : Int) + (T : Int) + (n1 : Int) := by omega
            by_cases g3 : n2 ≤ 1048576
            · have g3' : ¬ (1048576 : Int) < (n2 : Int) := by omega
              by_cases g4 : k + T + n1 + n2 ≤ 1048576
              · have g4' : ¬ (1048576 : Int) < (k : Int) + (T : Int) + (n1 : Int) + (n2 : Int) := by omega
                go_wp2
                go_ret
                exact ⟨⟨_, rfl, fun _ => by rw [← hTk'.out]; exact g4⟩, rfl⟩
              · have g4' : (1048576 : Int) < (k : Int) + (T : Int) + (n1 : Int) + (n2 : Int) := by omega
                go_wp2
                go_ret
                exact ⟨⟨_, rfl, fun h => by cases h⟩, rfl⟩
            · have g3' : (1048576 : Int) < (n2 : Int) := by omega
              go_wp2
              go_ret
              exact ⟨⟨_, rfl, fun h => by cases h⟩, rfl⟩
          · have g2' : (1048576 : Int) < (k : Int) + (T : Int) + (n1 : Int) := by omega
            go_wp2
            go_ret
            exact ⟨⟨_, rfl, fun h => by cases h⟩, rfl⟩
        · have g1' : (1048576 : Int) < (n1 : Int) := by omega
          go_wp2
          go_ret
          exact ⟨⟨_, rfl, fun h => by cases h⟩, rfl⟩
  · have g0' : (1048576 : Int) < (n : Int) := by omega
    go_enter Try.func10, Try.ntmps10
    go_wp2
    go_ret
    exact ⟨⟨_, rfl, fun h => by cases h⟩, rfl⟩

/-! ### spansBytes, lookedFits -/
set_option maxHeartbeats 1600000 in
theorem spansBytes_any (w : World) (a : Option Addr) (n c s0 : Nat) (S : Nat → Sp) (hn : n ≤ 1048576) (h0 : s0 ≤ 16777216) (hS : ∀ i, i < n → (S i).wl.length ≤ 1048576) (h : IsSps4 w a n S) :
    Calls Try.prog 36 #[.slice a n c, .int .i64 s0] w fun e w' => (∃ z : Nat, e = .returned (.int .i64 z)) ∧ w = w' := by
  go_enter Try.func36, Try.ntmps36
  go_wp2
  go_loopg [6, 5] n (fun g i t wr => ∃ k : Nat, k ≤ n ∧ g = n - k ∧ i = .int .i64 k ∧ (∃ T : Nat, t = .int .i64 T ∧ T ≤ 16777216) ∧ wr = w)
  case atStart => exact ⟨0, Nat.zero_le _, rfl, rfl, ⟨s0, rfl, h0⟩, rfl⟩
  case round =>
    obtain ⟨k, hk, rfl, rfl, ⟨T, rfl, hT⟩, rfl⟩ := hrel
    by_cases hlt : k < n
    · obtain ⟨b, off, rfl, hc⟩ := h (by omega)
      have hz : (k : Int) < (n : Int) := by omega
      obtain ⟨hb, c0, c1, c2, wa, wc, c3, -, -, -⟩ := hc k hlt
      have g1 := hS k hlt
      clear hc h hS c0 c1 c2
      obtain ⟨L, hL⟩ : ∃ L, L = (S k).wl.length := ⟨_, rfl⟩
      rw [← hL] at c3 g1
      clear hL
      have g1' : ¬ (1048576 : Int) < (L : Int) := by omega
      by_cases g2 : T + (48 + 8 * L) ≤ 1048576
      · have g2' : ¬ (1048576 : Int) < (T : Int) + (48 + 8 * (L : Int)) := by omega
        go_wp2
        go_roundg (n - (k + 1))
        case measure => go_light; omega
        case rel => go_light; exact ⟨k + 1, by omega, rfl, by go_num, ⟨T + (48 + 8 * L), by go_num, by omega⟩, rfl⟩
      · have g2' : (1048576 : Int) < (T : Int) + (48 + 8 * (L : Int)) := by omega
        go_wp2
        go_ret
        exact ⟨⟨T + (48 + 8 * L), by go_num⟩, rfl⟩
    · go_wp2
      go_ret
      exact ⟨⟨T, rfl⟩, rfl⟩

set_option maxHeartbeats 1600000 in
theorem fits_any (w : World) (a a1 a2 : Option Addr) (n c n1 c1 n2 c2 : Nat) (S : Nat → Sp) (hn : n ≤ 1048576) (hn1 : n1 ≤ 1048576) (hn2 : n2 ≤ 1048576) (hS : ∀ i, i < n → (S i).wl.length ≤ 1048576) (h : IsSps4 w a n S) :
    Calls Try.prog 11 #[.slice a n c, .slice a1 n1 c1, .slice a2 n2 c2] w fun e w' => Yes e True ∧ w = w' := by
  have g0 : ¬ (1048576 : Int) < (n : Int) := by omega
  have g1 : ¬ (1048576 : Int) < (n1 : Int) := by omega
  have g2 : ¬ (1048576 : Int) < (n2 : Int) := by omega
  have H := (show Hid _ from h)
  have HS := (show Hid _ from hS)
  clear h hS
  go_enter Try.func11, Try.ntmps11
  go_wp2_with fail
  refine (spansBytes_any _ a n c (8 * n1 + 8 * n2) S hn (by omega) HS.out H.out).mono ?_
  rintro e w' ⟨⟨z, rfl⟩, rfl⟩
  by_cases gz : z ≤ 1048576
  · have gz' : (z : Int) ≤ 1048576 := by omega
    go_wp2
    go_ret
    exact ⟨⟨_, rfl, fun _ => trivial⟩, rfl⟩
  · have gz' : ¬ (z : Int) ≤ 1048576 := by omega
    go_wp2
    go_ret
    exact ⟨⟨_, rfl, fun _ => trivial⟩, rfl⟩
end Go.Proofs.Qxb6600061a
