/-
  SHARED NOTIONS of seat 061a: a slice of integers that can be read ('IsInts'); cloneInt64s, inList, watchesPending.
-/
import Derived.Test.Qxb6600061aRows
import Derived.WalkKit
import Derived.WalkSpells
import Derived.Deep.LoopGhost
import Derived.Deep.OwnRows
import Derived.Deep.Cut
import Derived.Deep.Light
import Derived.Deep.CutRange
import Derived.Deep.QuietTactic
import Derived.BigQuiet
namespace Go.Proofs.Qxb6600061a
open Go.RowKit

theorem Try.info2 : (Try.prog.info? 2).map (fun i => (i.zero, i.size, i.bytes)) = some (some (.int .i64 0), 1, 8) := by kernel_rfl

/-- The slice at 'a', n elements, reads as the numbers f 0 .. f (n-1). -/
def IsInts (w : World) (a : Option Addr) (n : Nat) (f : Nat → Int) : Prop :=
  0 < n → ∃ b off, a = some ⟨b, off, none⟩ ∧ b < w.heap.size ∧ ∀ i, i < n → w.cell? ⟨b, off + i, none⟩ = some (.int .i64 (f i))

theorem IsInts.since {w w' : World} {a : Option Addr} {n : Nat} {f : Nat → Int} {B : Nat} (h : IsInts w a n f) (hs : w.Since B w') (hB : w.heap.size ≤ B) : IsInts w' a n f := by
  intro hn
  obtain ⟨b, off, e, hb, hc⟩ := h hn
  exact ⟨b, off, e, Nat.lt_of_lt_of_le hb hs.size, fun i hi => (hs.cell (a := ⟨b, off + i, none⟩) (Nat.lt_of_lt_of_le hb hB)).trans (hc i hi)⟩

theorem rowIs.isInts {w : World} {b t n : Nat} {f : Nat → Int} (h : w.rowIs b t n (fun i => .int .i64 (f i))) : IsInts w (some ⟨b, 0, none⟩) n f :=
  fun _ => ⟨b, 0, rfl, h.lt, fun i hi => by rw [Nat.zero_add]; exact h.cell hi⟩

theorem Since.below {B : Nat} {w w' : World} (h : w.Since B w') : Below B w w' := ⟨h.os, h.tape, h.output, h.size, h.block⟩

theorem Since.drewN {B : Nat} {w w' : World} (h : w.Since B w') : ∀ n, w.Since B (w'.drewN n) := by
  intro n; exact ⟨h.os, h.tape, h.output, h.size, h.block⟩

theorem Since.step {w w1 w2 : World} (h : w.Since w.heap.size w1) (k : w1.Since w1.heap.size w2) : w.Since w.heap.size w2 :=
  h.trans ⟨k.os, k.tape, k.output, k.size, fun i hi => k.block i (Nat.lt_of_lt_of_le hi h.size)⟩

/-! ### cloneInt64s -/
set_option maxHeartbeats 400000 in
theorem clone_nil (w : World) : Calls Try.prog 13 #[.slice none 0 0] w fun e w' => e = .returned (.slice none 0 0) ∧ w' = w := by
  have q : ∀ (w : World) (a : Option Addr) (n c : Nat), (binOp .eql 23 (.slice a n c) (.slice none 0 0)).run Try.prog w = .ok (.bool a.isNone) w := fun w a n c => Lib.run_eql_slice_nil w 23 2 a n c 0 0 Try.underlying23
  go_enter Try.func13, Try.ntmps13
  go_wp2
  go_ret
  exact ⟨rfl, rfl⟩

set_option maxHeartbeats 800000 in
theorem clone_some (w : World) (a : Addr) (n c : Nat) (f : Nat → Int) (hn : n ≤ 1048576) (h : IsInts w (some a) n f) :
    Calls Try.prog 13 #[.slice (some a) n c] w fun e w' => e = .returned (.slice (some ⟨w.heap.size, 0, none⟩) n n) ∧ w.Since w.heap.size w' ∧ w'.rowIs w.heap.size 2 n (fun i => .int .i64 (f i)) ∧ w'.heap.size = w.heap.size + 1 := by
  have q : ∀ (w : World) (a : Option Addr) (n c : Nat), (binOp .eql 23 (.slice a n c) (.slice none 0 0)).run Try.prog w = .ok (.bool a.isNone) w := fun w a n c => Lib.run_eql_slice_nil w 23 2 a n c 0 0 Try.underlying23
  have hmk := run_make_row' (P := Try.prog) 23 2 (.int .i64 0) 8 Try.underlying23 Try.info2 rfl .i64 .i64 n (by omega) (by omega)
  go_enter Try.func13, Try.ntmps13
  go_wp2
  clear hmk q
  go_loopg [4] n (fun g i wr => ∃ k : Nat, k ≤ n ∧ g = n - k ∧ i = .int .i64 k ∧ w.Since w.heap.size wr ∧ wr.heap.size = w.heap.size + 1 ∧ wr.rowIs w.heap.size 2 n (fun j => .int .i64 (if j < k then f j else 0)))
  case atStart => exact ⟨0, Nat.zero_le _, rfl, rfl, (World.Since.refl _ _).alloc (Nat.le_refl _) _, by simp, (World.rowIs_made w _ n 2).congr (fun j _ => by simp)⟩
  case round =>
    obtain ⟨k, hk, rfl, rfl, hS, hsz, hR⟩ := hrel
    by_cases hlt : k < n
    · obtain ⟨b, off, e, hb, hc⟩ := h (by omega)
      obtain rfl := Option.some.inj e
      have hz : (k : Int) < (n : Int) := by omega
      have g0 : wr.cell? ⟨b, off + k, none⟩ = some (.int .i64 (f k)) := by rw [hS.cell (a := ⟨b, off + k, none⟩) hb]; exact hc k hlt
      have g1 : wr.cell? ⟨w.heap.size, k, none⟩ = some (.int .i64 0) := by simpa using hR.cell hlt
      have g2 : wr.frozen? ⟨w.heap.size, k, none⟩ = false := hR.frozen k
      clear hc h e
      go_wp2
      go_roundg (n - (k + 1))
      case measure => go_light; omega
      case rel =>
        go_light
        refine ⟨k + 1, by omega, rfl, by go_num, hS.setCell (Nat.le_refl _) _, by simpa using hsz, (hR.set k _).congr (fun j _ => ?_)⟩
        by_cases e : j = k
        · subst e; simp
        · rw [if_neg e]
          by_cases h1 : j < k
          · rw [if_pos h1, if_pos (by omega)]
          · rw [if_neg h1, if_neg (by omega)]
    · go_wp2
      go_ret
      have : k = n := by omega
      subst this
      exact ⟨rfl, hS, hR.congr (fun j hj => by rw [if_pos hj]), hsz⟩

theorem clone_any (w : World) (a : Option Addr) (n c : Nat) (f : Nat → Int) (hn : n ≤ 1048576) (hz : a = none → n = 0 ∧ c = 0) (h : IsInts w a n f) :
    Calls Try.prog 13 #[.slice a n c] w fun e w' => ∃ a' c', e = .returned (.slice a' n c') ∧ (a' = none → n = 0 ∧ c' = 0) ∧ n ≤ c' ∧ w.Since w.heap.size w' ∧ IsInts w' a' n f := by
  cases a with
  | none =>
    obtain ⟨rfl, rfl⟩ := hz rfl
    exact (clone_nil w).mono fun e w' ⟨he, hw⟩ => ⟨none, 0, he, fun _ => ⟨rfl, rfl⟩, Nat.le_refl _, hw ▸ World.Since.refl _ _, fun h => absurd h (by omega)⟩
  | some a => exact (clone_some w a n c f hn h).mono fun e w' ⟨he, hs, hr, _⟩ => ⟨_, n, he, (fun h => by cases h), Nat.le_refl _, hs, rowIs.isInts hr⟩

/-! ### inList -/
/-- The first n numbers of f. -/
def ls (f : Nat → Int) (n : Nat) : List Int := (List.range n).map f
theorem mem_ls {f : Nat → Int} {n : Nat} {v : Int} : v ∈ ls f n ↔ ∃ i, i < n ∧ f i = v := by simp [ls]
theorem ls_len (f : Nat → Int) (n : Nat) : (ls f n).length = n := by simp [ls]

set_option maxHeartbeats 800000 in
theorem inList_any (w : World) (a : Option Addr) (n c : Nat) (f : Nat → Int) (v : Int) (hn : n ≤ 1048576) (h : IsInts w a n f) :
    Calls Try.prog 17 #[.slice a n c, .int .i64 v] w fun e w' => e = .returned (.bool (decide (v ∈ ls f n))) ∧ w = w' := by
  go_enter Try.func17, Try.ntmps17
  go_wp2
  go_loopg [5] n (fun g s5 wr => ∃ k : Nat, k ≤ n ∧ g = n - k ∧ s5 = .int .i64 k ∧ Hid (∀ j, j < k → f j ≠ v) ∧ wr = w)
  case atStart => exact ⟨0, Nat.zero_le _, rfl, rfl, (fun j hj => absurd hj (by omega)), rfl⟩
  case round =>
    obtain ⟨k, hk, hg, rfl, hN, rfl⟩ := hrel
    by_cases hlt : k < n
    · obtain ⟨b, off, rfl, hb, hc⟩ := h (by omega)
      have hz : (k : Int) < (n : Int) := by omega
      have g0 := hc k hlt
      clear hc h
      by_cases e : f k = v
      · have t1 : (f k == v) = true := by simp [e]
        have H : Hid (decide (v ∈ ls f n) = true) := decide_eq_true (mem_ls.2 ⟨k, hlt, e⟩)
        clear e
        go_wp2
        go_ret
        exact ⟨by rw [H.out]; rfl, rfl⟩
      · have t1 : (f k == v) = false := by simp [e]
        have hN' : Hid (∀ j, j < k + 1 → f j ≠ v) := fun j hj => by
          by_cases e2 : j = k
          · subst e2; exact e
          · exact hN.out j (by omega)
        clear e hN
        go_wp2
        go_roundg (n - (k + 1))
        case measure => go_light; omega
        case rel => go_light; exact ⟨k + 1, by omega, rfl, by go_num, hN', rfl⟩
    · have hz : ¬ (k : Int) < (n : Int) := by omega
      have H : Hid (decide (v ∈ ls f n) = false) := decide_eq_false (fun hm => by
        obtain ⟨i, hi, e⟩ := mem_ls.1 hm
        exact hN.out i (by omega) e)
      go_wp2
      go_ret
      exact ⟨by rw [H.out]; rfl, rfl⟩

/-! ### watchesPending -/
set_option maxHeartbeats 1600000 in
theorem watches_any (w : World) (a1 a2 a3 : Option Addr) (n1 n2 n3 c1 c2 c3 : Nat) (f1 f2 f3 : Nat → Int) (m1 : n1 ≤ 1048576) (m2 : n2 ≤ 1048576) (m3 : n3 ≤ 1048576) (h1 : IsInts w a1 n1 f1) (h2 : IsInts w a2 n2 f2) (h3 : IsInts w a3 n3 f3) :
    Calls Try.prog 16 #[.slice a1 n1 c1, .slice a2 n2 c2, .slice a3 n3 c3] w fun e w' => e = .returned (.bool ((ls f1 n1).any fun x => decide (x ∈ ls f2 n2) && !decide (x ∈ ls f3 n3))) ∧ w = w' := by
  have H2 : Hid (IsInts w a2 n2 f2) := h2
  have H3 : Hid (IsInts w a3 n3 f3) := h3
  clear h2 h3
  go_enter Try.func16, Try.ntmps16
  go_wp2
  go_loopg [7] n1 (fun g s7 wr => ∃ k : Nat, k ≤ n1 ∧ g = n1 - k ∧ s7 = .int .i64 k ∧ Hid (∀ j, j < k → (decide (f1 j ∈ ls f2 n2) && !decide (f1 j ∈ ls f3 n3)) = false) ∧ wr = w)
  case atStart => exact ⟨0, Nat.zero_le _, rfl, rfl, (fun j hj => absurd hj (by omega)), rfl⟩
  case round =>
    obtain ⟨k, hk, hg, rfl, hN, rfl⟩ := hrel
    by_cases hlt : k < n1
    · obtain ⟨b, off, rfl, hb, hc⟩ := h1 (by omega)
      have hz : (k : Int) < (n1 : Int) := by omega
      have g0 := hc k hlt
      clear hc h1
      cases e2 : decide (f1 k ∈ ls f2 n2)
      · have hN' : Hid (∀ j, j < k + 1 → (decide (f1 j ∈ ls f2 n2) && !decide (f1 j ∈ ls f3 n3)) = false) := fun j hj => by
          by_cases e3 : j = k
          · subst e3; rw [e2]; rfl
          · exact hN.out j (by omega)
        have HE : Hid (decide (f1 k ∈ ls f2 n2) = false) := e2
        clear e2 hN
        go_wp2_with fail
        refine (inList_any _ a2 n2 c2 f2 (f1 k) m2 H2.out).mono ?_
        rw [HE.out]
        rintro e w' ⟨rfl, rfl⟩
        go_wp2
        go_roundg (n1 - (k + 1))
        case measure => go_light; omega
        case rel => go_light; exact ⟨k + 1, by omega, rfl, by go_num, hN', rfl⟩
      · have HE : Hid (decide (f1 k ∈ ls f2 n2) = true) := e2
        cases e3 : decide (f1 k ∈ ls f3 n3)
        · have HE3 : Hid (decide (f1 k ∈ ls f3 n3) = false) := e3
          have H : Hid (((ls f1 n1).any fun x => decide (x ∈ ls f2 n2) && !decide (x ∈ ls f3 n3)) = true) := List.any_eq_true.2 ⟨f1 k, mem_ls.2 ⟨k, hlt, rfl⟩, by rw [e2, e3]; rfl⟩
          clear e2 e3 hN
          go_wp2_with fail
          refine (inList_any _ a2 n2 c2 f2 (f1 k) m2 H2.out).mono ?_
          rw [HE.out]
          rintro e w' ⟨rfl, rfl⟩
          go_wp2_with fail
          refine (inList_any _ a3 n3 c3 f3 (f1 k) m3 H3.out).mono ?_
          rw [HE3.out]
          rintro e w' ⟨rfl, rfl⟩
          go_wp2
          go_ret
          exact ⟨by rw [H.out]; rfl, rfl⟩
        · have HE3 : Hid (decide (f1 k ∈ ls f3 n3) = true) := e3
          have hN' : Hid (∀ j, j < k + 1 → (decide (f1 j ∈ ls f2 n2) && !decide (f1 j ∈ ls f3 n3)) = false) := fun j hj => by
            by_cases e4 : j = k
            · subst e4; rw [e2, e3]; rfl
            · exact hN.out j (by omega)
          clear e2 e3 hN
          go_wp2_with fail
          refine (inList_any _ a2 n2 c2 f2 (f1 k) m2 H2.out).mono ?_
          rw [HE.out]
          rintro e w' ⟨rfl, rfl⟩
          go_wp2_with fail
          refine (inList_any _ a3 n3 c3 f3 (f1 k) m3 H3.out).mono ?_
          rw [HE3.out]
          rintro e w' ⟨rfl, rfl⟩
          go_wp2
          go_roundg (n1 - (k + 1))
          case measure => go_light; omega
          case rel => go_light; exact ⟨k + 1, by omega, rfl, by go_num, hN', rfl⟩
    · have hz : ¬ (k : Int) < (n1 : Int) := by omega
      have H : Hid (((ls f1 n1).any fun x => decide (x ∈ ls f2 n2) && !decide (x ∈ ls f3 n3)) = false) := by
        refine List.any_eq_false.2 fun x hx => ?_
        obtain ⟨i, hi, rfl⟩ := mem_ls.1 hx
        rw [hN.out i (by omega)]
        simp
      go_wp2
      go_ret
      exact ⟨by rw [H.out]; rfl, rfl⟩
end Go.Proofs.Qxb6600061a
