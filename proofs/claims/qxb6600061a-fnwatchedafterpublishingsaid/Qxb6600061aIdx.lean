/-
  The closures of looked; slices.IndexFunc, slices.ContainsFunc (seat 061a).
-/
import Derived.Test.Qxb6600061aSeen
namespace Go.Proofs.Qxb6600061a
open Go.RowKit Go.Maps

/-- The state of x is 'pending' | 'published'. -/
def isP (g : Int → ByteArray) (x : Int) : Bool := (g x).toList == [112, 101, 110, 100, 105, 110, 103]
def isQ (g : Int → ByteArray) (x : Int) : Bool := (g x).toList == [112, 117, 98, 108, 105, 115, 104, 101, 100]

set_option maxHeartbeats 800000 in
theorem look1 (w : World) (v M n : Nat) (g : Int → ByteArray) (x : Int) (hx : Ok64 x) (h : Seen w v M n g) :
    Calls Try.prog 45 #[.int .i64 x, .pointer (some ⟨v, 0, none⟩)] w fun e w' => e = .returned (.bool (isP g x)) ∧ w = w' := by
  have c := h.box
  have hl := h.map.lookup hx
  clear h hx
  go_enter Try.func45, Try.ntmps45
  go_wp2
  go_ret
  exact ⟨rfl, rfl⟩

set_option maxHeartbeats 800000 in
theorem look2 (w : World) (v M n : Nat) (g : Int → ByteArray) (x : Int) (hx : Ok64 x) (h : Seen w v M n g) :
    Calls Try.prog 48 #[.int .i64 x, .pointer (some ⟨v, 0, none⟩)] w fun e w' => e = .returned (.bool (isQ g x)) ∧ w = w' := by
  have c := h.box
  have hl := h.map.lookup hx
  clear h hx
  go_enter Try.func48, Try.ntmps48
  go_wp2
  go_ret
  exact ⟨rfl, rfl⟩

/-- Function F, closed over the variable in block v, answers p at each int64, in each world that meets R, and turns nothing. -/
def Tells (F v : Nat) (R : World → Prop) (p : Int → Bool) : Prop :=
  ∀ w x, Ok64 x → R w → Calls Try.prog F #[.int .i64 x, .pointer (some ⟨v, 0, none⟩)] w fun e w' => e = .returned (.bool (p x)) ∧ w = w'

theorem tells1 (v M n : Nat) (g : Int → ByteArray) : Tells 45 v (fun w => Seen w v M n g) (isP g) := fun w x hx h => look1 w v M n g x hx h
theorem tells2 (v M n : Nat) (g : Int → ByteArray) : Tells 48 v (fun w => Seen w v M n g) (isQ g) := fun w x hx h => look2 w v M n g x hx h

theorem call45 : ∀ args w, (callFunc 45 args).run Try.prog w = .ok (.enter 45 args) w := fun _ _ => by go_simp
theorem call48 : ∀ args w, (callFunc 48 args).run Try.prog w = .ok (.enter 48 args) w := fun _ _ => by go_simp

/-- What IndexFunc answers. -/
inductive Idx (p : Int → Bool) (f : Nat → Int) (n : Nat) : Ending → Prop
  | none : (∀ j, j < n → p (f j) = false) → Idx p f n (.returned (.int .i64 (-1)))
  | at (k : Nat) : k < n → p (f k) = true → (∀ j, j < k → p (f j) = false) → Idx p f n (.returned (.int .i64 (k : Int)))

set_option maxHeartbeats 1600000 in
theorem index_any (F v : Nat) (R : World → Prop) (p : Int → Bool) (hcall : ∀ args w, (callFunc F args).run Try.prog w = .ok (.enter F args) w) (hT : Tells F v R p) (w : World) (a : Option Addr) (n c : Nat) (f : Nat → Int) (hn : n ≤ 1048576) (h : IsInts w a n f) (ho : ∀ i, i < n → Ok64 (f i)) (hR : R w) :
    Calls Try.prog 49 #[.slice a n c, .func (.func F) #[] #[.pointer (some ⟨v, 0, none⟩)]] w fun e w' => Idx p f n e ∧ w = w' := by
  have HT := (show Hid _ from hT)
  have HO := (show Hid _ from ho)
  have HR := (show Hid _ from hR)
  clear hT ho hR
  go_enter Try.func49, Try.ntmps49
  go_wp2
  go_loopg [8] n (fun g s8 wr => ∃ k : Nat, k ≤ n ∧ g = n - k ∧ s8 = .int .i64 k ∧ Hid (∀ j, j < k → p (f j) = false) ∧ wr = w)
  case atStart => exact ⟨0, Nat.zero_le _, rfl, rfl, (fun j hj => absurd hj (by omega)), rfl⟩
  case round =>
    obtain ⟨k, hk, hg, rfl, hN, rfl⟩ := hrel
    by_cases hlt : k < n
    · obtain ⟨b, off, rfl, hb, hc⟩ := h (by omega)
      have hz : (k : Int) < (n : Int) := by omega
      have g0 := hc k hlt
      clear hc h
      cases e : p (f k)
      · have hE : Hid (p (f k) = false) := e
        have hN' : Hid (∀ j, j < k + 1 → p (f j) = false) := fun j hj => by
          by_cases e2 : j = k
          · subst e2; exact e
          · exact hN.out j (by omega)
        clear e hN
        go_wp2_with fail
        refine (HT.out _ (f k) (HO.out k hlt) HR.out).mono ?_
        rw [hE.out]
        rintro e w' ⟨rfl, rfl⟩
        go_wp2
        go_roundg (n - (k + 1))
        case measure => go_light; omega
        case rel => go_light; exact ⟨k + 1, by omega, rfl, by go_num, hN', rfl⟩
      · have hE : Hid (p (f k) = true) := e
        clear e
        go_wp2_with fail
        refine (HT.out _ (f k) (HO.out k hlt) HR.out).mono ?_
        rw [hE.out]
        rintro e w' ⟨rfl, rfl⟩
        go_wp2
        go_ret
        exact ⟨Idx.at k hlt hE.out hN.out, rfl⟩
    · obtain rfl : k = n := by omega
      go_wp2
      go_ret
      exact ⟨Idx.none hN.out, rfl⟩

theorem any_none {p : Int → Bool} {f : Nat → Int} {n : Nat} (h : ∀ j, j < n → p (f j) = false) : (ls f n).any p = false := by
  refine List.any_eq_false.2 fun x hx => ?_
  obtain ⟨i, hi, rfl⟩ := mem_ls.1 hx
  rw [h i hi]
  simp
theorem any_some {p : Int → Bool} {f : Nat → Int} {n k : Nat} (hk : k < n) (h : p (f k) = true) : (ls f n).any p = true :=
  List.any_eq_true.2 ⟨f k, mem_ls.2 ⟨k, hk, rfl⟩, h⟩

set_option maxHeartbeats 800000 in
theorem contains_any (F v : Nat) (R : World → Prop) (p : Int → Bool) (hcall : ∀ args w, (callFunc F args).run Try.prog w = .ok (.enter F args) w) (hT : Tells F v R p) (w : World) (a : Option Addr) (n c : Nat) (f : Nat → Int) (hn : n ≤ 1048576) (h : IsInts w a n f) (ho : ∀ i, i < n → Ok64 (f i)) (hR : R w) :
    Calls Try.prog 44 #[.slice a n c, .func (.func F) #[] #[.pointer (some ⟨v, 0, none⟩)]] w fun e w' => e = .returned (.bool ((ls f n).any p)) ∧ w = w' := by
  have H := (show Hid _ from index_any F v R p hcall hT w a n c f hn h ho hR)
  clear hcall hT h ho hR
  go_enter Try.func44, Try.ntmps44
  go_wp2_with fail
  refine Calls.mono H.out ?_
  rintro e w' ⟨hi, rfl⟩
  cases hi with
  | none hN =>
    have e := (show Hid _ from any_none hN)
    clear hN
    go_wp2
    go_ret
    exact ⟨by rw [e.out]; rfl, rfl⟩
  | «at» k hk hp hN =>
    have e := (show Hid _ from any_some hk hp)
    have k0 : (0 : Int) ≤ (k : Int) := by omega
    clear hN hp
    go_wp2
    go_ret
    exact ⟨by rw [e.out]; rfl, rfl⟩
end Go.Proofs.Qxb6600061a
