/-
  b1SplitBytes: the bounds of one split.
-/
import Derived.Test.Qxb6600184aState
import Derived.Deep.CutBlock
namespace Go.Proofs.Qxb6600184a
open Go.RowKit
set_option linter.unusedVariables false

theorem hidd {p : Prop} (h : p) : Hid p := h

/-- The lists of names, below M. -/
def XIn (w : World) (M : Nat) (ax : Option Addr) (nx : Nat) (xl : Nat → Nat) (X : Nat → Nat → ByteArray) : Prop :=
  0 < nx → ∃ b off, ax = some ⟨b, off, none⟩ ∧ b < M ∧ ∀ i, i < nx → ∃ a c, w.cell? ⟨b, off + i, none⟩ = some (.slice a (xl i) c) ∧ InB w M a (xl i) (fun r => .string (X i r))

/-- The call returned a number of at most 2^20 + 1; if it is at most 2^20, p holds. -/
def Sized (e : Ending) (p : Prop) : Prop := ∃ z : Nat, e = .returned (.int .i64 z) ∧ z ≤ 1048577 ∧ (z ≤ 1048576 → p)

set_option maxRecDepth 100000 in
set_option maxHeartbeats 3200000 in
theorem splitB_any (w : World) (M : Nat) (aw aa al ax : Option Addr) (nw na nl nx cw ca cl cx : Nat) (N : Nat → ByteArray) (xl : Nat → Nat) (X : Nat → Nat → ByteArray) (h1 : nw ≤ maxLen) (h2 : na ≤ maxLen) (h3 : nl ≤ maxLen) (h4 : nx ≤ maxLen)
    (h5 : ∀ i, i < nx → xl i ≤ maxLen) (h6 : ∀ i, i < nl → (N i).size ≤ maxLen) (h7 : ∀ i, i < nx → ∀ r, r < xl i → (X i r).size ≤ maxLen) (hl : InB w M al nl (fun i => .string (N i))) (hx : XIn w M ax nx xl X) :
    Calls Try.prog 9 #[.slice aw nw cw, .slice aa na ca, .slice al nl cl, .slice ax nx cx] w fun e w' => Sized e (nw ≤ 4096 ∧ na ≤ 4096 ∧ nl ≤ 4096 ∧ nx ≤ 4096 ∧ pos xl nx ≤ 4096) ∧ w = w' := by
  unfold maxLen at h1 h2 h3 h4 h5 h6 h7
  have H5 := hidd h5
  have H6 := hidd h6
  have H7 := hidd h7
  have HL := hidd hl
  have HX := hidd hx
  clear h5 h6 h7 hl hx
  by_cases b1 : nw ≤ 4096
  case neg =>
    have z1 : (4096 : Int) < (nw : Int) := by omega
    go_enter Try.func9, Try.ntmps9
    go_wp2
    go_ret
    exact ⟨⟨1048577, rfl, by omega, fun h => absurd h (by omega)⟩, rfl⟩
  by_cases b2 : na ≤ 4096
  case neg =>
    have z1 : ¬ (4096 : Int) < (nw : Int) := by omega
    have z2 : (4096 : Int) < (na : Int) := by omega
    go_enter Try.func9, Try.ntmps9
    go_wp2
    go_ret
    exact ⟨⟨1048577, rfl, by omega, fun h => absurd h (by omega)⟩, rfl⟩
  by_cases b3 : nl ≤ 4096
  case neg =>
    have z1 : ¬ (4096 : Int) < (nw : Int) := by omega
    have z2 : ¬ (4096 : Int) < (na : Int) := by omega
    have z3 : (4096 : Int) < (nl : Int) := by omega
    go_enter Try.func9, Try.ntmps9
    go_wp2
    go_ret
    exact ⟨⟨1048577, rfl, by omega, fun h => absurd h (by omega)⟩, rfl⟩
  by_cases b4 : nx ≤ 4096
  case neg =>
    have z1 : ¬ (4096 : Int) < (nw : Int) := by omega
    have z2 : ¬ (4096 : Int) < (na : Int) := by omega
    have z3 : ¬ (4096 : Int) < (nl : Int) := by omega
    have z4 : (4096 : Int) < (nx : Int) := by omega
    go_enter Try.func9, Try.ntmps9
    go_wp2
    go_ret
    exact ⟨⟨1048577, rfl, by omega, fun h => absurd h (by omega)⟩, rfl⟩
  have z1 : ¬ (4096 : Int) < (nw : Int) := by omega
  have z2 : ¬ (4096 : Int) < (na : Int) := by omega
  have z3 : ¬ (4096 : Int) < (nl : Int) := by omega
  have z4 : ¬ (4096 : Int) < (nx : Int) := by omega
  go_enter Try.func9, Try.ntmps9
  go_wp2
  clear z1 z2 z3 z4
  go_loopg [11, 10] nl (fun g s11 s10 wr => ∃ k : Nat, k ≤ nl ∧ g = nl - k ∧ s11 = .int .i64 k ∧ (∃ T : Nat, s10 = .int .i64 T ∧ T ≤ 1048576) ∧ w = wr)
  case atStart => exact ⟨0, Nat.zero_le _, rfl, rfl, ⟨8 * nw + 8 * na + 16 * nl + 24 * nx, by go_num, by omega⟩, rfl⟩
  case round =>
    obtain ⟨k, hk, rfl, rfl, ⟨T, rfl, hT⟩, rfl⟩ := hrel
    by_cases hlt : k < nl
    · obtain ⟨b, off, rfl, hb, hc⟩ := HL.out (by omega)
      have hz : (k : Int) < (nl : Int) := by omega
      have g0 := hc k hlt
      have hs := H6.out k hlt
      simp only at g0
      generalize N k = s at g0 hs
      clear hc
      by_cases c1 : s.size ≤ 1048576
      · by_cases c2 : T + s.size ≤ 1048576
        · have y1 : ¬ (1048576 : Int) < (s.size : Int) := by omega
          have y2 : ¬ (1048576 : Int) < (T : Int) + (s.size : Int) := by omega
          go_wp2
          go_roundg (nl - (k + 1))
          case measure => go_light; omega
          case rel => go_light; exact ⟨k + 1, by omega, rfl, by go_num, ⟨T + s.size, by go_num, c2⟩, rfl⟩
        · have y1 : ¬ (1048576 : Int) < (s.size : Int) := by omega
          have y2 : (1048576 : Int) < (T : Int) + (s.size : Int) := by omega
          go_wp2
          go_ret
          exact ⟨⟨1048577, rfl, by omega, fun h => absurd h (by omega)⟩, rfl⟩
      · have y1 : (1048576 : Int) < (s.size : Int) := by omega
        go_wp2
        go_ret
        exact ⟨⟨1048577, rfl, by omega, fun h => absurd h (by omega)⟩, rfl⟩
    · go_wp2
      go_loopg [13, 10, 12] nx (fun g s13 s10 s12 wr => ∃ i : Nat, i ≤ nx ∧ g = nx - i ∧ s13 = .int .i64 i ∧ (∃ T : Nat, s10 = .int .i64 T ∧ T ≤ 1048576) ∧ s12 = .int .i64 (pos xl i : Nat) ∧ pos xl i ≤ 4096 ∧ w = wr)
      case atStart => exact ⟨0, Nat.zero_le _, rfl, rfl, ⟨T, rfl, hT⟩, rfl, Nat.zero_le _, rfl⟩
      case round =>
        obtain ⟨i, hi, rfl, rfl, ⟨T2, rfl, hT2⟩, rfl, hp, rfl⟩ := hrel
        by_cases hli : i < nx
        · obtain ⟨b, off, rfl, hb, hc⟩ := HX.out (by omega)
          obtain ⟨ai, ci, g0, hin⟩ := hc i hli
          have hz : (i : Int) < (nx : Int) := by omega
          have hxl := H5.out i hli
          have hps : Hid (pos xl (i + 1) = pos xl i + xl i) := rfl
          have HIN := hidd hin
          have HS := hidd (H7.out i hli)
          clear hc hin
          generalize hP : pos xl i = P at hp hps ⊢
          have HPP := hidd hP
          clear hP
          generalize xl i = n at g0 hxl hps HIN HS
          by_cases c1 : n ≤ 4096
          case neg =>
            have y1 : (4096 : Int) < (n : Int) := by omega
            go_wp2
            go_ret
            exact ⟨⟨1048577, rfl, by omega, fun h => absurd h (by omega)⟩, rfl⟩
          by_cases c2 : P + n ≤ 4096
          case neg =>
            have y1 : ¬ (4096 : Int) < (n : Int) := by omega
            have y2 : (4096 : Int) < (P : Int) + (n : Int) := by omega
            go_wp2
            go_ret
            exact ⟨⟨1048577, rfl, by omega, fun h => absurd h (by omega)⟩, rfl⟩
          by_cases c3 : T2 + 16 * n ≤ 1048576
          case neg =>
            have y1 : ¬ (4096 : Int) < (n : Int) := by omega
            have y2 : ¬ (4096 : Int) < (P : Int) + (n : Int) := by omega
            have y3 : (1048576 : Int) < (T2 : Int) + 16 * (n : Int) := by omega
            go_wp2
            go_ret
            exact ⟨⟨1048577, rfl, by omega, fun h => absurd h (by omega)⟩, rfl⟩
          have y1 : ¬ (4096 : Int) < (n : Int) := by omega
          have y2 : ¬ (4096 : Int) < (P : Int) + (n : Int) := by omega
          have y3 : ¬ (1048576 : Int) < (T2 : Int) + 16 * (n : Int) := by omega
          go_wp2
          clear y1 y2 y3 g0
          go_loopg [15, 10] n (fun g s15 s10 wr => ∃ r : Nat, r ≤ n ∧ g = n - r ∧ s15 = .int .i64 r ∧ (∃ T : Nat, s10 = .int .i64 T ∧ T ≤ 1048576) ∧ w = wr)
          case atStart => exact ⟨0, Nat.zero_le _, rfl, rfl, ⟨T2 + 16 * n, by go_num, c3⟩, rfl⟩
          case round =>
            obtain ⟨r, hr, rfl, rfl, ⟨T3, rfl, hT3⟩, rfl⟩ := hrel
            by_cases hlr : r < n
            · obtain ⟨b2, off2, rfl, hb2, hc2⟩ := HIN.out (by omega)
              have hzr : (r : Int) < (n : Int) := by omega
              have g1 := hc2 r hlr
              have hs := HS.out r hlr
              simp only at g1
              generalize X i r = s at g1 hs
              clear hc2
              by_cases d1 : s.size ≤ 1048576
              · by_cases d2 : T3 + s.size ≤ 1048576
                · have y1 : ¬ (1048576 : Int) < (s.size : Int) := by omega
                  have y2 : ¬ (1048576 : Int) < (T3 : Int) + (s.size : Int) := by omega
                  go_wp2
                  go_roundg (n - (r + 1))
                  case measure => go_light; omega
                  case rel => go_light; exact ⟨r + 1, by omega, rfl, by go_num, ⟨T3 + s.size, by go_num, d2⟩, rfl⟩
                · have y1 : ¬ (1048576 : Int) < (s.size : Int) := by omega
                  have y2 : (1048576 : Int) < (T3 : Int) + (s.size : Int) := by omega
                  go_wp2
                  go_ret
                  exact ⟨⟨1048577, rfl, by omega, fun h => absurd h (by omega)⟩, rfl⟩
              · have y1 : (1048576 : Int) < (s.size : Int) := by omega
                go_wp2
                go_ret
                exact ⟨⟨1048577, rfl, by omega, fun h => absurd h (by omega)⟩, rfl⟩
            · go_wp2
              go_roundg (nx - (i + 1))
              case measure => go_light; omega
              case rel => go_light; exact ⟨i + 1, by omega, rfl, by go_num, ⟨T3, rfl, hT3⟩, by rw [hps.out]; go_num, by rw [hps.out]; exact c2, rfl⟩
        · obtain rfl : i = nx := by omega
          have HP := hidd hp
          clear hp
          go_wp2
          go_ret
          exact ⟨⟨T2, rfl, by omega, fun _ => ⟨b1, b2, b3, b4, HP.out⟩⟩, rfl⟩
end Go.Proofs.Qxb6600184a
