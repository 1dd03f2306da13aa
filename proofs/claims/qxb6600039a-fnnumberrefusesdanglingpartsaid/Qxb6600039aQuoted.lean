/-
  (*Scanner).Quoted, walked: it computes Sc's quo.
-/
import Derived.Test.Qxb6600039aBase
namespace Go.Proofs.Qxb6600039a
open Go.RowKit Sc

/-- What Quoted leaves: refused; or what the quotes hold, and the offset behind the closing quote. -/
def QPost (S : Nat) (a : Option Addr) (at_ : Nat) (R : Option (Nat × Bool)) (w : World) (e : Ending) (w' : World) : Prop :=
  match R with
  | none => e = .returned (.tuple #[.slice none 0 0, .bool false, .bool false]) ∧ ∃ m, w.drewN m = w'
  | some (j, p) => ∃ a' c', e = .returned (.tuple #[.slice a' (j - (at_ + 1)) c', .bool p, .bool true]) ∧ (at_ + 1 < j → ∀ b off, a = some ⟨b, off, none⟩ → a' = some ⟨b, off + (at_ + 1), none⟩) ∧ ∃ m, (w.drewN m).setCell ⟨S, 1, none⟩ (.int .i64 ((j : Int) + 1)) = w'

theorem qpost_none {S : Nat} {a : Option Addr} {at_ : Nat} {R : Option (Nat × Bool)} {w : World} {m : Nat} (h : R = none) : QPost S a at_ R w (.returned (.tuple #[.slice none 0 0, .bool false, .bool false])) (w.drewN m) := by
  subst h; exact ⟨rfl, m, rfl⟩

theorem hex4_all {d : Nat → Int} {i : Nat} (h : hex4 d i = true) (k : Nat) (hk : k < 4) : hexB (d (i + k)) = true := by
  simp only [hex4, Bool.and_eq_true] at h
  obtain ⟨⟨⟨h0, h1⟩, h2⟩, h3⟩ := h
  match k, hk with
  | 0, _ => exact h0
  | 1, _ => exact h1
  | 2, _ => exact h2
  | 3, _ => exact h3
theorem hex4_of {d : Nat → Int} {i : Nat} (h : ∀ k, k < 4 → hexB (d (i + k)) = true) : hex4 d i = true := by
  simp only [hex4, Bool.and_eq_true]
  exact ⟨⟨⟨h 0 (by omega), h 1 (by omega)⟩, h 2 (by omega)⟩, h 3 (by omega)⟩

/-- Refused at once. -/
theorem quoted_no (w : World) (S n c a_ : Nat) (a : Option Addr) (d : Nat → Int) (hn : n ≤ 1048576) (ha : a_ ≤ n) (h0 : w.cell? ⟨S, 0, none⟩ = some (.slice a n c)) (h1 : w.cell? ⟨S, 1, none⟩ = some (.int .i64 a_)) (hd : IsInts w .u8 a n d)
    (h : a_ = n ∨ (a_ < n ∧ ¬ d a_ = 34)) : Calls Try.prog 12 #[.pointer (some ⟨S, 0, none⟩)] w (QPost S a a_ none w) := by
  rcases h with h | ⟨h, hq⟩
  · subst h
    have t0 : ((a_ : Int) == (a_ : Int)) = true := by simp
    go_enter Try.func12, Try.ntmps12
    go_wp2
    go_quiet (fail)
    go_wp2
    go_ret3
    exact ⟨rfl, _, rfl⟩
  · obtain ⟨b, off, rfl, _, hc⟩ := hd (by omega)
    have g0 := hc a_ h
    have t0 : ((a_ : Int) == (n : Int)) = false := by simp; omega
    have t1 : (d a_ != 34) = true := by simp [hq]
    have hz : (a_ : Int) < (n : Int) := by omega
    clear hc hd hq
    go_enter Try.func12, Try.ntmps12
    go_wp2
    go_quiet (fail)
    go_wp2
    go_ret3
    exact ⟨rfl, _, rfl⟩

set_option maxHeartbeats 3200000 in
set_option maxRecDepth 100000 in
theorem quoted_go (w : World) (S n c b off a_ : Nat) (d : Nat → Int) (R : Option (Nat × Bool)) (hn : n ≤ 1048576) (hcn : n ≤ c) (h0 : w.cell? ⟨S, 0, none⟩ = some (.slice (some ⟨b, off, none⟩) n c)) (h1 : w.cell? ⟨S, 1, none⟩ = some (.int .i64 a_)) (hf : w.frozen? ⟨S, 1, none⟩ = false)
    (hc : ∀ i, i < n → w.cell? ⟨b, off + i, none⟩ = some (.int .u8 (d i))) (hlt : a_ < n) (hq : d a_ = 34) (hR : Hid (sc d n (a_ + 1) true = R)) : Calls Try.prog 12 #[.pointer (some ⟨S, 0, none⟩)] w (QPost S (some ⟨b, off, none⟩) a_ R w) := by
  have g0 := hc a_ hlt
  have t0 : ((a_ : Int) == (n : Int)) = false := by simp; omega
  have t1 : (d a_ != 34) = false := by simp [hq]
  have hz : (a_ : Int) < (n : Int) := by omega
  have HC : Hid (∀ i, i < n → w.cell? ⟨b, off + i, none⟩ = some (.int .u8 (d i))) := hc
  clear hc hq
  go_enter Try.func12, Try.ntmps12
  go_wp2
  go_quiet (fail)
  go_wp2
  clear g0 t0 t1 hz
  go_loopg [3, 6] (n - (a_ + 1)) (fun g s3 s6 wr => ∃ (i : Nat) (p : Bool), a_ + 1 ≤ i ∧ i ≤ n ∧ g = n - i ∧ s3 = .bool p ∧ s6 = .int .i64 i ∧ Hid (sc d n i p = R) ∧ wr = w.drewN nq)
  case atStart => exact ⟨a_ + 1, true, Nat.le_refl _, by omega, by omega, rfl, rfl, hR, rfl⟩
  case round =>
    clear hR
    obtain ⟨i, p, hi1, hi2, hgi, rfl, rfl, hR, rfl⟩ := hrel
    by_cases hin : i < n
    · have hz : (i : Int) < (n : Int) := by omega
      have g1 := HC.out i hin
      by_cases hq : d i = 34
      · have t2 : (d i == 34) = true := by simp [hq]
        have HR : Hid (R = some (i, p)) := by show R = some (i, p); rw [← hR.out, sc_quote p hin hq]
        have k5 : (a_ : Int) + 1 ≤ (i : Int) := by omega
        have k6 : (i : Int) ≤ (c : Int) := by omega
        clear hq hR
        go_wp2
        all_goals
          go_ret3
          have hRR := HR.out
          subst hRR
          refine ⟨_, _, rfl, fun hlt' b' off' e' => ?_, nq, rfl⟩
          simp only [Option.some.injEq, Addr.mk.injEq] at e'
          obtain ⟨rfl, rfl, _⟩ := e'
          first | rfl | (exfalso; omega)
      · have t2 : (d i == 34) = false := by simp [hq]
        by_cases h32 : d i < 32
        · have HR : Hid (R = none) := by show R = none; rw [← hR.out]; exact sc_none p hin hq (by unfold stp; rw [if_pos h32])
          clear hq hR
          go_wp2
          go_ret3
          exact qpost_none HR.out
        · by_cases h92 : d i = 92
          · have t3 : (d i == 92) = true := by simp [h92]
            by_cases hi1n : i + 1 = n
            · have t4 : ((i : Int) + 1 == (n : Int)) = true := by simp; omega
              have HR : Hid (R = none) := by show R = none; rw [← hR.out]; exact sc_none p hin hq (by unfold stp; rw [if_neg h32, if_pos h92, if_pos (by omega)])
              clear hq hR h92
              go_wp2
              go_ret3
              exact qpost_none HR.out
            · have t4 : ((i : Int) + 1 == (n : Int)) = false := by simp; omega
              have hz1 : (i : Int) + 1 < (n : Int) := by omega
              have g2 := HC.out (i + 1) (by omega)
              obtain ⟨e, he⟩ : ∃ e, e = d (i + 1) := ⟨_, rfl⟩
              rw [← he] at g2
              by_cases hes : escB e = true
              · have HR : Hid (sc d n (i + 2) false = R) := by
                  show sc d n (i + 2) false = R
                  rw [← hR.out, sc_step p hin hq (j := i + 2) (e := true) (by unfold stp; rw [if_neg h32, if_pos h92, if_neg (by omega), ← he, if_pos hes])]
                  rfl
                have hor : e = 34 ∨ e = 92 ∨ e = 47 ∨ e = 98 ∨ e = 102 ∨ e = 110 ∨ e = 114 ∨ e = 116 := by simpa [escB, or_assoc] using hes
                clear hq hR h92 he hes
                rcases hor with rfl | rfl | rfl | rfl | rfl | rfl | rfl | rfl <;>
                  (go_wp2
                   go_roundg (n - (i + 2))
                   case measure => go_light; omega
                   case rel => go_light; exact ⟨i + 2, false, by omega, by omega, rfl, rfl, by go_num, HR, rfl⟩)
              · by_cases hu : e = 117
                · subst hu
                  by_cases h5 : n ≤ i + 5
                  · have HR : Hid (R = none) := by show R = none; rw [← hR.out]; exact sc_none p hin hq (by unfold stp; rw [if_neg h32, if_pos h92, if_neg (by omega), ← he, if_neg hes, if_pos rfl, if_pos h5])
                    have t5 : (n : Int) ≤ (i : Int) + 1 + 4 := by omega
                    clear hq hR h92 he hes
                    go_wp2
                    go_ret3
                    exact qpost_none HR.out
                  · have HS : Hid (stp d n i = if hex4 d (i + 2) then some (i + 6, true) else none) := by
                      show stp d n i = _
                      unfold stp; rw [if_neg h32, if_pos h92, if_neg (by omega), ← he, if_neg hes, if_pos rfl, if_neg h5]
                    have t5 : (i : Int) + 1 + 4 < (n : Int) := by omega
                    have HQ : Hid (¬ d i = 34) := hq
                    have k5 : (i : Int) + 1 + 1 ≤ (i : Int) + 1 + 5 := by omega
                    have k6 : (i : Int) + 1 + 5 ≤ (c : Int) := by omega
                    have k7 : ¬ c = i + 1 + 1 := by omega
                    have t6 : decide ((n : Int) ≤ (i : Int) + 1 + 4) = false := by simp; omega
                    clear hq h92 he hes
                    go_wp2
                    clear t5 t6 k5 k6 k7
                    go_loopg [3, 122] 4 (fun g s3 s122 wx => s3 = .bool false ∧ ∃ k : Nat, k ≤ 4 ∧ g = 4 - k ∧ s122 = .int .i64 k ∧ wx = w.drewN nq ∧ Hid (∀ t, t < k → hexB (d (i + 2 + t)) = true))
                    case atStart => exact ⟨rfl, 0, by omega, rfl, rfl, rfl, fun t ht => by omega⟩
                    case round =>
                      obtain ⟨rfl, k, hk, hgk, rfl, rfl, hhx⟩ := hrel
                      by_cases hk4 : k < 4
                      · have hkz : (k : Int) < 4 := by omega
                        have g3 : w.cell? ⟨b, off + (i + 1 + 1) + k, none⟩ = some (.int .u8 (d (i + 2 + k))) := by
                          rw [show off + (i + 1 + 1) + k = off + (i + 2 + k) from by omega]; exact HC.out (i + 2 + k) (by omega)
                        cases hx : hexB (d (i + 2 + k))
                        · have HR : Hid (R = none) := by
                            show R = none
                            rw [← hR.out]
                            refine sc_none p hin HQ.out ?_
                            rw [HS.out, if_neg]
                            intro h4
                            have := hex4_all h4 k hk4
                            rw [hx] at this; cases this
                          have Hx : Hid (hexB (d (i + 2 + k)) = false) := hx
                          clear hx
                          go_wp2_with (go_at_call 31; refine (hex_any _ _).mono ?_; rintro e w' ⟨rfl, rfl⟩; rw [Hx.out])
                          go_ret3
                          exact qpost_none HR.out
                        · have Hx : Hid (hexB (d (i + 2 + k)) = true) := hx
                          clear hx
                          go_wp2_with (go_at_call 31; refine (hex_any _ _).mono ?_; rintro e w' ⟨rfl, rfl⟩; rw [Hx.out])
                          go_roundg (4 - (k + 1))
                          case measure => go_light; omega
                          case rel =>
                            go_light
                            refine ⟨rfl, k + 1, by omega, rfl, by go_num, rfl, fun t ht => ?_⟩
                            by_cases e : t = k
                            · subst e; exact Hx.out
                            · exact hhx.out t (by omega)
                      · have e4 : k = 4 := by omega
                        subst e4
                        have HR : Hid (sc d n (i + 6) false = R) := by
                          show sc d n (i + 6) false = R
                          have h4 : hex4 d (i + 2) = true := hex4_of (fun t ht => hhx.out t ht)
                          rw [← hR.out, sc_step p hin HQ.out (j := i + 6) (e := true) (by rw [HS.out, if_pos h4])]
                          rfl
                        clear hhx hk hgk hR
                        go_wp2
                        go_roundg (n - (i + 6))
                        case measure => go_light; omega
                        case rel => go_light; exact ⟨i + 6, false, by omega, by omega, rfl, rfl, by go_num, HR, rfl⟩
                · have HR : Hid (R = none) := by show R = none; rw [← hR.out]; exact sc_none p hin hq (by unfold stp; rw [if_neg h32, if_pos h92, if_neg (by omega), ← he, if_neg hes, if_neg hu])
                  obtain ⟨u1, u2, u3, u4, u5, u6, u7, u8⟩ : (e == 34) = false ∧ (e == 92) = false ∧ (e == 47) = false ∧ (e == 98) = false ∧ (e == 102) = false ∧ (e == 110) = false ∧ (e == 114) = false ∧ (e == 116) = false := by
                    simpa [escB, and_assoc] using hes
                  have u9 : (e == 117) = false := by simp [hu]
                  clear hq hR h92 he hes hu
                  go_wp2
                  go_ret3
                  exact qpost_none HR.out
          · have t3 : (d i == 92) = false := by simp [h92]
            have HR : Hid (sc d n (i + 1) p = R) := by
              show sc d n (i + 1) p = R
              rw [← hR.out, sc_step p hin hq (j := i + 1) (e := false) (by unfold stp; rw [if_neg h32, if_neg h92])]
              rfl
            clear hq hR h92
            go_wp2
            go_roundg (n - (i + 1))
            case measure => go_light; omega
            case rel => go_light; exact ⟨i + 1, p, by omega, by omega, rfl, rfl, by go_num, HR, rfl⟩
    · have HR : Hid (R = none) := by show R = none; rw [← hR.out]; exact sc_end d p (by omega)
      go_wp2
      go_ret3
      exact qpost_none HR.out

/-- Quoted, whatever lies there. -/
theorem quoted_any (w : World) (S n c a_ : Nat) (a : Option Addr) (d : Nat → Int) (hn : n ≤ 1048576) (hcn : n ≤ c) (ha : a_ ≤ n) (h0 : w.cell? ⟨S, 0, none⟩ = some (.slice a n c)) (h1 : w.cell? ⟨S, 1, none⟩ = some (.int .i64 a_)) (hf : w.frozen? ⟨S, 1, none⟩ = false) (hd : IsInts w .u8 a n d) :
    Calls Try.prog 12 #[.pointer (some ⟨S, 0, none⟩)] w (QPost S a a_ (quo d n a_) w) := by
  by_cases e : a_ = n
  · have : quo d n a_ = none := by unfold quo; rw [if_pos e]
    rw [this]
    exact quoted_no w S n c a_ a d hn ha h0 h1 hd (.inl e)
  · by_cases hq : d a_ = 34
    · obtain ⟨b, off, rfl, _, hc⟩ := hd (by omega)
      refine quoted_go w S n c b off a_ d _ hn hcn h0 h1 hf hc (by omega) hq ?_
      show _ = quo d n a_
      unfold quo; rw [if_neg e, if_pos hq]
    · have : quo d n a_ = none := by unfold quo; rw [if_neg e, if_neg hq]
      rw [this]
      exact quoted_no w S n c a_ a d hn ha h0 h1 hd (.inr ⟨by omega, hq⟩)
end Go.Proofs.Qxb6600039a
