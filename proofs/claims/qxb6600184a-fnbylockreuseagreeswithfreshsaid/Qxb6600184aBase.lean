/-
  SHARED NOTIONS: a slice of integers that can be read ('IsInts'); the walks of the copying functions.
-/
import Derived.Test.Qxb6600184aRows
import Derived.WalkKit
import Derived.WalkSpells
import Derived.Deep.LoopGhost
import Derived.Deep.OwnRows
import Derived.Deep.Cut
import Derived.Deep.Light
import Derived.Deep.CutRange
import Derived.Deep.QuietTactic
import Derived.BigQuiet
namespace Go.Proofs.Qxb6600184a
open Go.RowKit

theorem Try.info3 : (Try.prog.info? 3).map (fun i => (i.zero, i.size, i.bytes)) = some (some (.int .i64 0), 1, 8) := by kernel_rfl
theorem Try.info2 : (Try.prog.info? 2).map (fun i => (i.zero, i.size, i.bytes)) = some (some (.int .i64 0), 1, 8) := by kernel_rfl
theorem Try.info4 : (Try.prog.info? 4).map (fun i => (i.zero, i.size, i.bytes)) = some (some (.bool false), 1, 1) := by kernel_rfl
theorem Try.info9 : (Try.prog.info? 9).map (fun i => (i.zero, i.size, i.bytes)) = some (some (.string ByteArray.empty), 1, 16) := by kernel_rfl

/-- The slice at 'a', n elements, reads as the numbers f 0 .. f (n-1). -/
def IsInts (w : World) (k : IntKind) (a : Option Addr) (n : Nat) (f : Nat → Int) : Prop :=
  0 < n → ∃ b off, a = some ⟨b, off, none⟩ ∧ b < w.heap.size ∧ ∀ i, i < n → w.cell? ⟨b, off + i, none⟩ = some (.int k (f i))

theorem IsInts.since {w w' : World} {k : IntKind} {a : Option Addr} {n : Nat} {f : Nat → Int} {B : Nat} (h : IsInts w k a n f) (hs : w.Since B w') (hB : w.heap.size ≤ B) : IsInts w' k a n f := by
  intro hn
  obtain ⟨b, off, e, hb, hc⟩ := h hn
  exact ⟨b, off, e, Nat.lt_of_lt_of_le hb hs.size, fun i hi => (hs.cell (a := ⟨b, off + i, none⟩) (Nat.lt_of_lt_of_le hb hB)).trans (hc i hi)⟩

theorem rowIs.isInts {w : World} {b t n : Nat} {k : IntKind} {f : Nat → Int} (h : w.rowIs b t n (fun i => .int k (f i))) : IsInts w k (some ⟨b, 0, none⟩) n f :=
  fun _ => ⟨b, 0, rfl, h.lt, fun i hi => by rw [Nat.zero_add]; exact h.cell hi⟩

theorem Since.below {B : Nat} {w w' : World} (h : w.Since B w') : Below B w w' := ⟨h.os, h.tape, h.output, h.size, h.block⟩

theorem Since.drewN {B : Nat} {w w' : World} (h : w.Since B w') : ∀ n, w.Since B (w'.drewN n) := by
  intro n; exact ⟨h.os, h.tape, h.output, h.size, h.block⟩

theorem Since.step {w w1 w2 : World} (h : w.Since w.heap.size w1) (k : w1.Since w1.heap.size w2) : w.Since w.heap.size w2 :=
  h.trans ⟨k.os, k.tape, k.output, k.size, fun i hi => k.block i (Nat.lt_of_lt_of_le hi h.size)⟩

/-! ### b1CopyInts -/
set_option maxHeartbeats 400000 in
theorem copyInts_nil (w : World) : Calls Try.prog 10 #[.slice none 0 0] w fun e w' => e = .returned (.slice none 0 0) ∧ w' = w := by
  have q : ∀ (w : World) (a : Option Addr) (n c : Nat), (binOp .eql 22 (.slice a n c) (.slice none 0 0)).run Try.prog w = .ok (.bool a.isNone) w := fun w a n c => Lib.run_eql_slice_nil w 22 3 a n c 0 0 Try.underlying22
  go_enter Try.func10, Try.ntmps10
  go_wp2
  go_ret
  exact ⟨rfl, rfl⟩

set_option maxHeartbeats 800000 in
theorem copyInts_some (w : World) (a : Addr) (n c : Nat) (f : Nat → Int) (hn : n ≤ 1048576) (h : IsInts w .i64 (some a) n f) :
    Calls Try.prog 10 #[.slice (some a) n c] w fun e w' => e = .returned (.slice (some ⟨w.heap.size, 0, none⟩) n n) ∧ w.Since w.heap.size w' ∧ w'.rowIs w.heap.size 3 n (fun i => .int .i64 (f i)) ∧ w'.heap.size = w.heap.size + 1 := by
  have q : ∀ (w : World) (a : Option Addr) (n c : Nat), (binOp .eql 22 (.slice a n c) (.slice none 0 0)).run Try.prog w = .ok (.bool a.isNone) w := fun w a n c => Lib.run_eql_slice_nil w 22 3 a n c 0 0 Try.underlying22
  have hmk := run_make_row' (P := Try.prog) 22 3 (.int .i64 0) 8 Try.underlying22 Try.info3 rfl .i64 .i64 n (by omega) (by omega)
  go_enter Try.func10, Try.ntmps10
  go_wp2
  clear hmk q
  go_loopg [4] n (fun g i wr => ∃ k : Nat, k ≤ n ∧ g = n - k ∧ i = .int .i64 k ∧ w.Since w.heap.size wr ∧ wr.heap.size = w.heap.size + 1 ∧ wr.rowIs w.heap.size 3 n (fun j => .int .i64 (if j < k then f j else 0)))
  case atStart => exact ⟨0, Nat.zero_le _, rfl, rfl, (World.Since.refl _ _).alloc (Nat.le_refl _) _, by simp, (World.rowIs_made w _ n 3).congr (fun j _ => by simp)⟩
  case round =>
    obtain ⟨k, hk, rfl, rfl, hS, hsz, hR⟩ := hrel
    by_cases hlt : k < n
    · obtain ⟨b, off, e, hb, hc⟩ := h (by omega)
      obtain rfl := Option.some.inj e
      have hz : (k : Int) < (n : Int) := by omega
      have g0 : wr.cell? ⟨b, off + k, none⟩ = some (.int .i64 (f k)) := by rw [hS.cell (a := ⟨b, off + k, none⟩) hb]; exact hc k hlt
      have g1 : wr.cell? ⟨w.heap.size, k, none⟩ = some (.int .i64 0) := by simpa using hR.cell hlt
      have g2 : wr.frozen? ⟨w.heap.size, k, none⟩ = false := hR.frozen k
      clear hc h e
      go_wp2
      go_roundg (n - (k + 1))
      case measure => go_light; omega
      case rel =>
        go_light
        refine ⟨k + 1, by omega, rfl, by go_num, hS.setCell (Nat.le_refl _) _, by simpa using hsz, (hR.set k _).congr (fun j _ => ?_)⟩
        by_cases e : j = k
        · subst e; simp
        · rw [if_neg e]
          by_cases h1 : j < k
          · rw [if_pos h1, if_pos (by omega)]
          · rw [if_neg h1, if_neg (by omega)]
    · go_wp2
      go_ret
      have : k = n := by omega
      subst this
      exact ⟨rfl, hS, hR.congr (fun j hj => by rw [if_pos hj]), hsz⟩

/-! ### b1CopyInt64s -/
set_option maxHeartbeats 400000 in
theorem copyInt64s_nil (w : World) : Calls Try.prog 21 #[.slice none 0 0] w fun e w' => e = .returned (.slice none 0 0) ∧ w' = w := by
  have q : ∀ (w : World) (a : Option Addr) (n c : Nat), (binOp .eql 40 (.slice a n c) (.slice none 0 0)).run Try.prog w = .ok (.bool a.isNone) w := fun w a n c => Lib.run_eql_slice_nil w 40 2 a n c 0 0 Try.underlying40
  go_enter Try.func21, Try.ntmps21
  go_wp2
  go_ret
  exact ⟨rfl, rfl⟩

set_option maxHeartbeats 800000 in
theorem copyInt64s_some (w : World) (a : Addr) (n c : Nat) (f : Nat → Int) (hn : n ≤ 1048576) (h : IsInts w .i64 (some a) n f) :
    Calls Try.prog 21 #[.slice (some a) n c] w fun e w' => e = .returned (.slice (some ⟨w.heap.size, 0, none⟩) n n) ∧ w.Since w.heap.size w' ∧ w'.rowIs w.heap.size 2 n (fun i => .int .i64 (f i)) ∧ w'.heap.size = w.heap.size + 1 := by
  have q : ∀ (w : World) (a : Option Addr) (n c : Nat), (binOp .eql 40 (.slice a n c) (.slice none 0 0)).run Try.prog w = .ok (.bool a.isNone) w := fun w a n c => Lib.run_eql_slice_nil w 40 2 a n c 0 0 Try.underlying40
  have hmk := run_make_row' (P := Try.prog) 40 2 (.int .i64 0) 8 Try.underlying40 Try.info2 rfl .i64 .i64 n (by omega) (by omega)
  go_enter Try.func21, Try.ntmps21
  go_wp2
  clear hmk q
  go_loopg [4] n (fun g i wr => ∃ k : Nat, k ≤ n ∧ g = n - k ∧ i = .int .i64 k ∧ w.Since w.heap.size wr ∧ wr.heap.size = w.heap.size + 1 ∧ wr.rowIs w.heap.size 2 n (fun j => .int .i64 (if j < k then f j else 0)))
  case atStart => exact ⟨0, Nat.zero_le _, rfl, rfl, (World.Since.refl _ _).alloc (Nat.le_refl _) _, by simp, (World.rowIs_made w _ n 2).congr (fun j _ => by simp)⟩
  case round =>
    obtain ⟨k, hk, rfl, rfl, hS, hsz, hR⟩ := hrel
    by_cases hlt : k < n
    · obtain ⟨b, off, e, hb, hc⟩ := h (by omega)
      obtain rfl := Option.some.inj e
      have hz : (k : Int) < (n : Int) := by omega
      have g0 : wr.cell? ⟨b, off + k, none⟩ = some (.int .i64 (f k)) := by rw [hS.cell (a := ⟨b, off + k, none⟩) hb]; exact hc k hlt
      have g1 : wr.cell? ⟨w.heap.size, k, none⟩ = some (.int .i64 0) := by simpa using hR.cell hlt
      have g2 : wr.frozen? ⟨w.heap.size, k, none⟩ = false := hR.frozen k
      clear hc h e
      go_wp2
      go_roundg (n - (k + 1))
      case measure => go_light; omega
      case rel =>
        go_light
        refine ⟨k + 1, by omega, rfl, by go_num, hS.setCell (Nat.le_refl _) _, by simpa using hsz, (hR.set k _).congr (fun j _ => ?_)⟩
        by_cases e : j = k
        · subst e; simp
        · rw [if_neg e]
          by_cases h1 : j < k
          · rw [if_pos h1, if_pos (by omega)]
          · rw [if_neg h1, if_neg (by omega)]
    · go_wp2
      go_ret
      have : k = n := by omega
      subst this
      exact ⟨rfl, hS, hR.congr (fun j hj => by rw [if_pos hj]), hsz⟩


/-- Whatever the slice: a copy of its own. -/
def Copied (k : IntKind) (n : Nat) (f : Nat → Int) (w : World) (e : Ending) (w' : World) : Prop :=
  ∃ a' c', e = .returned (.slice a' n c') ∧ IsInts w' k a' n f ∧ w.Since w.heap.size w'

theorem copyInts_any (w : World) (a : Option Addr) (n c : Nat) (f : Nat → Int) (hn : n ≤ 1048576) (hnil : a = none → n = 0 ∧ c = 0) (h : IsInts w .i64 a n f) : Calls Try.prog 10 #[.slice a n c] w (Copied .i64 n f w) := by
  cases a with
  | none =>
    obtain ⟨rfl, rfl⟩ := hnil rfl
    exact (copyInts_nil w).mono fun e w' ⟨he, hw⟩ => ⟨none, 0, he, fun h => absurd h (by omega), hw ▸ World.Since.refl _ _⟩
  | some a => exact (copyInts_some w a n c f hn h).mono fun e w' ⟨he, hs, hr, _⟩ => ⟨_, _, he, rowIs.isInts hr, hs⟩

theorem copyInt64s_any (w : World) (a : Option Addr) (n c : Nat) (f : Nat → Int) (hn : n ≤ 1048576) (hnil : a = none → n = 0 ∧ c = 0) (h : IsInts w .i64 a n f) : Calls Try.prog 21 #[.slice a n c] w (Copied .i64 n f w) := by
  cases a with
  | none =>
    obtain ⟨rfl, rfl⟩ := hnil rfl
    exact (copyInt64s_nil w).mono fun e w' ⟨he, hw⟩ => ⟨none, 0, he, fun h => absurd h (by omega), hw ▸ World.Since.refl _ _⟩
  | some a => exact (copyInt64s_some w a n c f hn h).mono fun e w' ⟨he, hs, hr, _⟩ => ⟨_, _, he, rowIs.isInts hr, hs⟩

/-! ### zzBytes: it only computes -/
set_option maxHeartbeats 800000 in
theorem zzHub (v : Int) (a1 a2 a3 a4 : Option Addr) (n1 n2 n3 n4 c1 c2 c3 c4 : Nat) (w : World) (_h1 : n1 ≤ maxLen) (_h2 : n2 ≤ maxLen) (_h3 : n3 ≤ maxLen) (_h4 : n4 ≤ maxLen) :
    Calls Try.prog 19 #[.int .i64 v, .slice a1 n1 c1, .slice a2 n2 c2, .slice a3 n3 c3, .slice a4 n4 c4] w fun e w' => (∃ b, e = .returned (.bool b)) ∧ w = w' := by
  unfold maxLen at *
  go_enter Try.func19, Try.ntmps19
  go_wp2
  all_goals
    go_ret
    exact ⟨⟨_, rfl⟩, rfl⟩

set_option maxHeartbeats 800000 in
theorem zzShape (v : Int) (a1 a2 a3 a4 : Option Addr) (n1 n2 n3 n4 c1 c2 c3 c4 : Nat) (w : World) (_h1 : n1 ≤ maxLen) (_h2 : n2 ≤ maxLen) (_h3 : n3 ≤ maxLen) (_h4 : n4 ≤ maxLen) :
    Calls Try.prog 23 #[.int .i64 v, .slice a1 n1 c1, .slice a2 n2 c2, .slice a3 n3 c3, .slice a4 n4 c4] w fun e w' => (∃ b, e = .returned (.bool b)) ∧ w = w' := by
  unfold maxLen at *
  go_enter Try.func23, Try.ntmps23
  go_wp2
  all_goals
    go_ret
    exact ⟨⟨_, rfl⟩, rfl⟩

end Go.Proofs.Qxb6600184a
