/-
  SHARED NOTIONS of this seat: a slice of bytes that can be read ('IsInts'); the walks of the small functions.
-/
import Derived.Test.Qxb6600039aRows
import Derived.Test.Qxb6600039aScanPlain
import Derived.WalkKit
import Derived.WalkSpells
import Derived.Deep.LoopGhost
import Derived.Deep.OwnRows
import Derived.Deep.Cut
import Derived.Deep.Light
import Derived.Deep.CutRange
import Derived.Deep.QuietTactic
import Derived.BigQuiet
namespace Go.Proofs.Qxb6600039a
open Go.RowKit Sc

theorem Try.info5 : (Try.prog.info? 5).map (fun i => (i.zero, i.size, i.bytes)) = some (some (.int .u8 0), 1, 1) := by kernel_rfl

/-- The slice at 'a', n elements, reads as the numbers f 0 .. f (n-1). -/
def IsInts (w : World) (k : IntKind) (a : Option Addr) (n : Nat) (f : Nat → Int) : Prop :=
  0 < n → ∃ b off, a = some ⟨b, off, none⟩ ∧ b < w.heap.size ∧ ∀ i, i < n → w.cell? ⟨b, off + i, none⟩ = some (.int k (f i))

theorem IsInts.since {w w' : World} {k : IntKind} {a : Option Addr} {n : Nat} {f : Nat → Int} {B : Nat} (h : IsInts w k a n f) (hs : w.Since B w') (hB : w.heap.size ≤ B) : IsInts w' k a n f := by
  intro hn
  obtain ⟨b, off, e, hb, hc⟩ := h hn
  exact ⟨b, off, e, Nat.lt_of_lt_of_le hb hs.size, fun i hi => (hs.cell (a := ⟨b, off + i, none⟩) (Nat.lt_of_lt_of_le hb hB)).trans (hc i hi)⟩

theorem IsInts.congr {w : World} {k : IntKind} {a : Option Addr} {n : Nat} {f f' : Nat → Int} (h : IsInts w k a n f) (e : ∀ i, i < n → f i = f' i) : IsInts w k a n f' := by
  intro hn
  obtain ⟨b, off, ea, hb, hc⟩ := h hn
  exact ⟨b, off, ea, hb, fun i hi => by rw [hc i hi, e i hi]⟩

theorem rowIs.isInts {w : World} {b t n : Nat} {k : IntKind} {f : Nat → Int} (h : w.rowIs b t n (fun i => .int k (f i))) : IsInts w k (some ⟨b, 0, none⟩) n f :=
  fun _ => ⟨b, 0, rfl, h.lt, fun i hi => by rw [Nat.zero_add]; exact h.cell hi⟩

theorem Since.below {B : Nat} {w w' : World} (h : w.Since B w') : Below B w w' := ⟨h.os, h.tape, h.output, h.size, h.block⟩
theorem Since.drewN {B : Nat} {w w' : World} (h : w.Since B w') : ∀ n, w.Since B (w'.drewN n) := by
  intro n; exact ⟨h.os, h.tape, h.output, h.size, h.block⟩
theorem Since.step {w w1 w2 : World} (h : w.Since w.heap.size w1) (k : w1.Since w1.heap.size w2) : w.Since w.heap.size w2 :=
  h.trans ⟨k.os, k.tape, k.output, k.size, fun i hi => k.block i (Nat.lt_of_lt_of_le hi h.size)⟩

/-! ### jsb1Clone -/
set_option maxHeartbeats 400000 in
theorem clone_nil (w : World) : Calls Try.prog 20 #[.slice none 0 0] w fun e w' => e = .returned (.slice none 0 0) ∧ w' = w := by
  have q : ∀ (w : World) (a : Option Addr) (n c : Nat), (binOp .eql 22 (.slice a n c) (.slice none 0 0)).run Try.prog w = .ok (.bool a.isNone) w := fun w a n c => Lib.run_eql_slice_nil w 22 5 a n c 0 0 Try.underlying22
  go_enter Try.func20, Try.ntmps20
  go_wp2
  go_ret
  exact ⟨rfl, rfl⟩

set_option maxHeartbeats 800000 in
theorem clone_some (w : World) (a : Addr) (n c : Nat) (f : Nat → Int) (hn : n ≤ 1048576) (h : IsInts w .u8 (some a) n f) :
    Calls Try.prog 20 #[.slice (some a) n c] w fun e w' => e = .returned (.slice (some ⟨w.heap.size, 0, none⟩) n n) ∧ w.Since w.heap.size w' ∧ w'.rowIs w.heap.size 5 n (fun i => .int .u8 (f i)) := by
  have q : ∀ (w : World) (a : Option Addr) (n c : Nat), (binOp .eql 22 (.slice a n c) (.slice none 0 0)).run Try.prog w = .ok (.bool a.isNone) w := fun w a n c => Lib.run_eql_slice_nil w 22 5 a n c 0 0 Try.underlying22
  have hmk := run_make_row' (P := Try.prog) 22 5 (.int .u8 0) 1 Try.underlying22 Try.info5 rfl .i64 .i64 n (by omega) (by omega)
  go_enter Try.func20, Try.ntmps20
  go_wp2
  clear hmk q
  go_loopg [4] n (fun g i wr => ∃ k : Nat, k ≤ n ∧ g = n - k ∧ i = .int .i64 k ∧ w.Since w.heap.size wr ∧ wr.rowIs w.heap.size 5 n (fun j => .int .u8 (if j < k then f j else 0)))
  case atStart => exact ⟨0, Nat.zero_le _, rfl, rfl, (World.Since.refl _ _).alloc (Nat.le_refl _) _, (World.rowIs_made w _ n 5).congr (fun j _ => by simp)⟩
  case round =>
    obtain ⟨k, hk, rfl, rfl, hS, hR⟩ := hrel
    by_cases hlt : k < n
    · obtain ⟨b, off, e, hb, hc⟩ := h (by omega)
      obtain rfl := Option.some.inj e
      have hz : (k : Int) < (n : Int) := by omega
      have g0 : wr.cell? ⟨b, off + k, none⟩ = some (.int .u8 (f k)) := by rw [hS.cell (a := ⟨b, off + k, none⟩) hb]; exact hc k hlt
      have g1 : wr.cell? ⟨w.heap.size, k, none⟩ = some (.int .u8 0) := by simpa using hR.cell hlt
      have g2 : wr.frozen? ⟨w.heap.size, k, none⟩ = false := hR.frozen k
      clear hc h e
      go_wp2
      go_roundg (n - (k + 1))
      case measure => go_light; omega
      case rel =>
        go_light
        refine ⟨k + 1, by omega, rfl, by go_num, hS.setCell (Nat.le_refl _) _, (hR.set k _).congr (fun j _ => ?_)⟩
        by_cases e : j = k
        · subst e; simp
        · rw [if_neg e]
          by_cases h1 : j < k
          · rw [if_pos h1, if_pos (by omega)]
          · rw [if_neg h1, if_neg (by omega)]
    · go_wp2
      go_ret
      have : k = n := by omega
      subst this
      exact ⟨rfl, hS, hR.congr (fun j hj => by rw [if_pos hj])⟩

/-! ### jsb1Equal: where both read alike, true -/
set_option maxHeartbeats 800000 in
theorem equal_same (w : World) (a b : Option Addr) (n c d : Nat) (f : Nat → Int) (hn : n ≤ 1048576) (h1 : IsInts w .u8 a n f) (h2 : IsInts w .u8 b n f) :
    Calls Try.prog 13 #[.slice a n c, .slice b n d] w fun e w' => e = .returned (.bool true) ∧ ∃ m, w.drewN m = w' := by
  have t0 : ((n : Int) != (n : Int)) = false := by simp
  go_enter Try.func13, Try.ntmps13
  go_wp2
  clear t0
  go_loopg [5] n (fun g i wr => ∃ k m : Nat, k ≤ n ∧ g = n - k ∧ i = .int .i64 k ∧ wr = w.drewN m)
  case atStart => exact ⟨0, 0, Nat.zero_le _, rfl, rfl, rfl⟩
  case round =>
    obtain ⟨k, m, hk, hgk, rfl, rfl⟩ := hrel
    by_cases hlt : k < n
    · obtain ⟨b1, o1, rfl, _, hc1⟩ := h1 (by omega)
      obtain ⟨b2, o2, rfl, _, hc2⟩ := h2 (by omega)
      have hz : (k : Int) < (n : Int) := by omega
      have g1 := hc1 k hlt
      have g2 := hc2 k hlt
      have t1 : (f k != f k) = false := by simp
      clear hc1 hc2 h1 h2
      go_wp2
      go_quiet (fail)
      go_wp2
      go_roundg (n - (k + 1))
      case measure => go_light; omega
      case rel =>
        go_light
        exact ⟨k + 1, m + nq, by omega, rfl, by go_num, by simp⟩
    · go_wp2
      go_ret
      exact ⟨rfl, m, rfl⟩

/-! ### isHexDigit -/
theorem hex_any (c : Int) (w : World) : Calls Try.prog 31 #[.int .u8 c] w fun e w' => e = .returned (.bool (hexB c)) ∧ w = w' := by
  by_cases h1 : 48 ≤ c ∧ c ≤ 57
  · obtain ⟨h1, h2⟩ := h1
    have e : hexB c = true := by simp [hexB, h1, h2]
    rw [e]
    go_enter Try.func31, Try.ntmps31
    go_wp2
    go_ret
    exact ⟨rfl, rfl⟩
  by_cases h3 : 97 ≤ c ∧ c ≤ 102
  · obtain ⟨h3, h4⟩ := h3
    have e : hexB c = true := by simp [hexB, h3, h4]
    rw [e]
    have k1 : 48 ≤ c := by omega
    have k2 : ¬ c ≤ 57 := by omega
    clear h1
    go_enter Try.func31, Try.ntmps31
    go_wp2
    go_ret
    exact ⟨rfl, rfl⟩
  by_cases h5 : 65 ≤ c ∧ c ≤ 70
  · obtain ⟨h5, h6⟩ := h5
    have e : hexB c = true := by simp [hexB, h5, h6]
    rw [e]
    have k1 : 48 ≤ c := by omega
    have k2 : ¬ c ≤ 57 := by omega
    have k3 : ¬ 97 ≤ c := by omega
    clear h1 h3
    go_enter Try.func31, Try.ntmps31
    go_wp2
    go_ret
    exact ⟨rfl, rfl⟩
  · have e : hexB c = false := by
      simp only [hexB, Bool.or_eq_false_iff, Bool.and_eq_false_iff, decide_eq_false_iff_not]
      omega
    rw [e]
    rcases (show c < 48 ∨ (57 < c ∧ c < 65) ∨ (70 < c ∧ c < 97) ∨ 102 < c by omega) with k | ⟨k, k'⟩ | ⟨k, k'⟩ | k <;> clear h1 h3 h5 <;>
      (go_enter Try.func31, Try.ntmps31
       go_wp2
       go_ret
       first | exact ⟨rfl, rfl⟩ | exact ⟨by simp; omega, rfl⟩)

/-! ### zzBytes: it only computes -/
set_option maxHeartbeats 800000 in
theorem zzSpan (v : Int) (a1 a2 : Option Addr) (n1 n2 c1 c2 : Nat) (w : World) (_h1 : n1 ≤ maxLen) (_h2 : n2 ≤ maxLen) :
    Calls Try.prog 19 #[.slice a1 n1 c1, .int .i64 v, .slice a2 n2 c2] w fun e w' => (∃ b, e = .returned (.bool b)) ∧ w = w' := by
  unfold maxLen at *
  go_enter Try.func19, Try.ntmps19
  go_wp2
  all_goals
    go_ret
    exact ⟨⟨_, rfl⟩, rfl⟩
end Go.Proofs.Qxb6600039a
