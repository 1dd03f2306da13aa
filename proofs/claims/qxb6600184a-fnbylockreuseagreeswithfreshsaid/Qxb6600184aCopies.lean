/-
  b1CopyStrings, b1CopyStringLists.
-/
import Derived.Test.Qxb6600184aSplitB
import Derived.Deep.RegionHeld3
namespace Go.Proofs.Qxb6600184a
open Go.RowKit
set_option linter.unusedVariables false

theorem Try.info23 : (Try.prog.info? 23).map (fun i => (i.zero, i.size, i.bytes)) = some (some (.slice none 0 0), 1, 24) := by kernel_rfl

/-- A slice x of n cells f, in a block from B on. -/
def SF (B : Nat) (w : World) (x : Value) (n : Nat) (f : Nat → Value) : Prop :=
  ∃ a c, x = .slice a n c ∧ (a = none → n = 0 ∧ c = 0) ∧ (0 < n → ∃ b off, a = some ⟨b, off, none⟩ ∧ B ≤ b ∧ b < w.heap.size ∧ ∀ i, i < n → w.cell? ⟨b, off + i, none⟩ = some (f i))

theorem SF.since {B : Nat} {w w' : World} {x : Value} {n : Nat} {f : Nat → Value} (h : SF B w x n f) (hs : w.Since w.heap.size w') : SF B w' x n f := by
  obtain ⟨a, c, e, hz, h1⟩ := h
  refine ⟨a, c, e, hz, fun hn => ?_⟩
  obtain ⟨b, off, ea, hB, hb, hc⟩ := h1 hn
  exact ⟨b, off, ea, hB, Nat.lt_of_lt_of_le hb hs.size, fun i hi => (hs.cell (a := ⟨b, off + i, none⟩) hb).trans (hc i hi)⟩
theorem SF.set {B g o : Nat} {w : World} {x y : Value} {n : Nat} {f : Nat → Value} (h : SF B w x n f) (hg : g < B) : SF B (w.setCell ⟨g, o, none⟩ y) x n f := by
  obtain ⟨a, c, e, hz, h1⟩ := h
  refine ⟨a, c, e, hz, fun hn => ?_⟩
  obtain ⟨b, off, ea, hB, hb, hc⟩ := h1 hn
  exact ⟨b, off, ea, hB, by simpa using hb, fun i hi => (World.cell?_of_block (a := ⟨b, off + i, none⟩) (blk_set w ⟨g, o, none⟩ y b (by show b ≠ g; omega))).trans (hc i hi)⟩

set_option maxHeartbeats 400000 in
theorem copyStrs_nil (w : World) : Calls Try.prog 11 #[.slice none 0 0] w fun e w' => e = .returned (.slice none 0 0) ∧ w = w' := by
  have q : ∀ (w : World) (a : Option Addr) (n c : Nat), (binOp .eql 23 (.slice a n c) (.slice none 0 0)).run Try.prog w = .ok (.bool a.isNone) w := fun w a n c => Lib.run_eql_slice_nil w 23 _ a n c 0 0 Try.underlying23
  go_enter Try.func11, Try.ntmps11
  go_wp2
  go_ret
  exact ⟨rfl, rfl⟩

set_option maxHeartbeats 800000 in
theorem copyStrs_some (w : World) (M : Nat) (a : Addr) (n c : Nat) (N : Nat → ByteArray) (hM : M ≤ w.heap.size) (hn : n ≤ 1048576) (h : InB w M (some a) n (fun i => .string (N i))) :
    Calls Try.prog 11 #[.slice (some a) n c] w fun e w' => e = .returned (.slice (some ⟨w.heap.size, 0, none⟩) n n) ∧ w.Since w.heap.size w' ∧ w'.rowIs w.heap.size 9 n (fun i => .string (N i)) := by
  have q : ∀ (w : World) (a : Option Addr) (n c : Nat), (binOp .eql 23 (.slice a n c) (.slice none 0 0)).run Try.prog w = .ok (.bool a.isNone) w := fun w a n c => Lib.run_eql_slice_nil w 23 _ a n c 0 0 Try.underlying23
  have hmk := run_make_row' (P := Try.prog) 23 9 (.string ByteArray.empty) 16 Try.underlying23 Try.info9 rfl .i64 .i64 n (by omega) (by omega)
  go_enter Try.func11, Try.ntmps11
  go_wp2
  clear hmk q
  go_loopg [4] n (fun g i wr => ∃ k : Nat, k ≤ n ∧ g = n - k ∧ i = .int .i64 k ∧ w.Since w.heap.size wr ∧ wr.rowIs w.heap.size 9 n (fun j => if j < k then .string (N j) else .string ByteArray.empty))
  case atStart => exact ⟨0, Nat.zero_le _, rfl, rfl, (World.Since.refl _ _).alloc (Nat.le_refl _) _, (World.rowIs_made w _ n 9).congr (fun j _ => by simp)⟩
  case round =>
    obtain ⟨k, hk, rfl, rfl, hS, hR⟩ := hrel
    by_cases hlt : k < n
    · obtain ⟨b, off, e, hb, hc⟩ := h (by omega)
      obtain rfl := Option.some.inj e
      have hz : (k : Int) < (n : Int) := by omega
      have g0 : wr.cell? ⟨b, off + k, none⟩ = some (.string (N k)) := by rw [hS.cell (a := ⟨b, off + k, none⟩) (by show b < _; omega)]; exact hc k hlt
      have g1 : wr.cell? ⟨w.heap.size, k, none⟩ = some (.string ByteArray.empty) := by simpa using hR.cell hlt
      have g2 : wr.frozen? ⟨w.heap.size, k, none⟩ = false := hR.frozen k
      clear hc h e
      go_wp2
      go_roundg (n - (k + 1))
      case measure => go_light; omega
      case rel =>
        go_light
        refine ⟨k + 1, by omega, rfl, by go_num, hS.setCell (Nat.le_refl _) _, (hR.set k _).congr (fun j _ => ?_)⟩
        by_cases e : j = k
        · subst e; simp
        · rw [if_neg e]
          by_cases h1 : j < k
          · rw [if_pos h1, if_pos (by omega)]
          · rw [if_neg h1, if_neg (by omega)]
    · go_wp2
      go_ret
      have : k = n := by omega
      subst this
      exact ⟨rfl, hS, hR.congr (fun j hj => by rw [if_pos hj])⟩

/-- The call returned a slice of one's own. -/
def GotSF (B : Nat) (w : World) (n : Nat) (f : Nat → Value) (e : Ending) : Prop := ∃ x, e = .returned x ∧ SF B w x n f

theorem copyStrs_any (w : World) (M : Nat) (a : Option Addr) (n c : Nat) (N : Nat → ByteArray) (hM : M ≤ w.heap.size) (hn : n ≤ 1048576) (hz : a = none → n = 0 ∧ c = 0) (h : InB w M a n (fun i => .string (N i))) :
    Calls Try.prog 11 #[.slice a n c] w fun e w' => GotSF w.heap.size w' n (fun i => .string (N i)) e ∧ w.Since w.heap.size w' := by
  cases a with
  | none =>
    obtain ⟨rfl, rfl⟩ := hz rfl
    exact (copyStrs_nil w).mono fun e w' ⟨he, hw⟩ => ⟨⟨_, he, none, 0, rfl, fun _ => ⟨rfl, rfl⟩, fun h => absurd h (by omega)⟩, hw ▸ World.Since.refl _ _⟩
  | some a => exact (copyStrs_some w M a n c N hM hn h).mono fun e w' ⟨he, hs, hr⟩ => ⟨⟨_, he, _, n, rfl, (fun h => by cases h), fun _ => ⟨_, 0, rfl, Nat.le_refl _, hr.lt, fun i hi => by rw [Nat.zero_add]; exact hr.cell hi⟩⟩, hs⟩

set_option maxHeartbeats 400000 in
theorem copyLists_nil (w : World) : Calls Try.prog 12 #[.slice none 0 0] w fun e w' => e = .returned (.slice none 0 0) ∧ w = w' := by
  have q : ∀ (w : World) (a : Option Addr) (n c : Nat), (binOp .eql 24 (.slice a n c) (.slice none 0 0)).run Try.prog w = .ok (.bool a.isNone) w := fun w a n c => Lib.run_eql_slice_nil w 24 _ a n c 0 0 Try.underlying24
  go_enter Try.func12, Try.ntmps12
  go_wp2
  go_ret
  exact ⟨rfl, rfl⟩

/-- A slice of slices of names came in: nil rows are nil. -/
def XInZ (w : World) (M : Nat) (ax : Option Addr) (nx : Nat) (xl : Nat → Nat) (X : Nat → Nat → ByteArray) : Prop :=
  0 < nx → ∃ b off, ax = some ⟨b, off, none⟩ ∧ b < M ∧ ∀ i, i < nx → ∃ a c, w.cell? ⟨b, off + i, none⟩ = some (.slice a (xl i) c) ∧ (a = none → xl i = 0 ∧ c = 0) ∧ InB w M a (xl i) (fun r => .string (X i r))
theorem XInZ.xin {w : World} {M : Nat} {ax : Option Addr} {nx : Nat} {xl : Nat → Nat} {X : Nat → Nat → ByteArray} (h : XInZ w M ax nx xl X) : XIn w M ax nx xl X := fun hn => by
  obtain ⟨b, off, e, hb, hc⟩ := h hn
  refine ⟨b, off, e, hb, fun i hi => ?_⟩
  obtain ⟨a, c, h1, _, h3⟩ := hc i hi
  exact ⟨a, c, h1, h3⟩
theorem XInZ.since {w w' : World} {M : Nat} {ax : Option Addr} {nx : Nat} {xl : Nat → Nat} {X : Nat → Nat → ByteArray} (h : XInZ w M ax nx xl X) (hs : w.Since M w') : XInZ w' M ax nx xl X := fun hn => by
  obtain ⟨b, off, e, hb, hc⟩ := h hn
  refine ⟨b, off, e, hb, fun i hi => ?_⟩
  obtain ⟨a, c, h1, h2, h3⟩ := hc i hi
  exact ⟨a, c, (hs.cell (a := ⟨b, off + i, none⟩) hb).trans h1, h2, h3.since hs⟩

set_option maxHeartbeats 1600000 in
theorem copyLists_some (w : World) (M : Nat) (ad : Addr) (n c : Nat) (xl : Nat → Nat) (X : Nat → Nat → ByteArray) (hM : M ≤ w.heap.size) (hn : n ≤ 1048576) (hxl : ∀ i, i < n → xl i ≤ 1048576) (h : XInZ w M (some ad) n xl X) :
    Calls Try.prog 12 #[.slice (some ad) n c] w fun e w' => (e = .returned (.slice (some ⟨w.heap.size, 0, none⟩) n n) ∧ ∃ V, w'.rowIs w.heap.size 23 n V ∧ ∀ i, i < n → SF (w.heap.size + 1) w' (V i) (xl i) (fun r => .string (X i r))) ∧ w.Since w.heap.size w' := by
  have q : ∀ (w : World) (a : Option Addr) (n c : Nat), (binOp .eql 24 (.slice a n c) (.slice none 0 0)).run Try.prog w = .ok (.bool a.isNone) w := fun w a n c => Lib.run_eql_slice_nil w 24 _ a n c 0 0 Try.underlying24
  have hmk := run_make_row' (P := Try.prog) 24 23 (.slice none 0 0) 24 Try.underlying24 Try.info23 rfl .i64 .i64 n (by omega) (by omega)
  have HX := hidd hxl
  have H := hidd h
  clear hxl h
  go_enter Try.func12, Try.ntmps12
  go_wp2
  clear hmk q
  go_loopg [4] n (fun g i wr => ∃ k : Nat, k ≤ n ∧ g = n - k ∧ i = .int .i64 k ∧ w.Since w.heap.size wr ∧ Hid (∃ V, wr.rowIs w.heap.size 23 n V ∧ ∀ i, i < k → SF (w.heap.size + 1) wr (V i) (xl i) (fun r => .string (X i r))))
  case atStart => exact ⟨0, Nat.zero_le _, rfl, rfl, (World.Since.refl _ _).alloc (Nat.le_refl _) _, ⟨_, World.rowIs_made w _ n 23, fun i hi => absurd hi (by omega)⟩⟩
  case round =>
    obtain ⟨k, hk, rfl, rfl, hS, hR⟩ := hrel
    by_cases hlt : k < n
    · obtain ⟨b, off, e, hb, hc⟩ := H.out (by omega)
      obtain rfl := Option.some.inj e
      obtain ⟨ai, ci, c0, hz0, hin⟩ := hc k hlt
      have hz : (k : Int) < (n : Int) := by omega
      have hSM : w.Since M wr := ⟨hS.os, hS.tape, hS.output, hS.size, fun j hj => hS.block j (by omega)⟩
      have g0 : wr.cell? ⟨b, off + k, none⟩ = some (.slice ai (xl k) ci) := (hSM.cell (a := ⟨b, off + k, none⟩) hb).trans c0
      have HI := hidd (hin.since hSM)
      have HZ := hidd hz0
      have hxk := HX.out k hlt
      have hMr : M ≤ wr.heap.size := Nat.le_trans hM hS.size
      clear hc hin hz0 c0 e
      go_wp2_with fail
      refine (copyStrs_any wr M ai (xl k) ci (X k) hMr hxk HZ.out HI.out).mono ?_
      rintro e w1 ⟨⟨x, rfl, hx⟩, hs1⟩
      obtain ⟨V, hV, hVs⟩ := hR.out
      have hHl := hV.lt
      have hV1 := hV.of_block (hs1.block _ hHl)
      have g1 := hV1.cell hlt
      have g2 := hV1.frozen k
      have hxF : SF (w.heap.size + 1) w1 x (xl k) (fun r => .string (X k r)) := by
        obtain ⟨a2, c2, e2, z2, h2⟩ := hx
        refine ⟨a2, c2, e2, z2, fun hn => ?_⟩
        obtain ⟨b2, o2, e3, hB, hb2, hc2⟩ := h2 hn
        exact ⟨b2, o2, e3, by omega, hb2, hc2⟩
      have hRn : Hid (∃ V, (w1.setCell ⟨w.heap.size, k, none⟩ x).rowIs w.heap.size 23 n V ∧ ∀ i, i < k + 1 → SF (w.heap.size + 1) (w1.setCell ⟨w.heap.size, k, none⟩ x) (V i) (xl i) (fun r => .string (X i r))) := by
        refine ⟨_, hV1.set k x, fun i hi => ?_⟩
        by_cases e : i = k
        · subst e; simp only [if_true]; exact hxF.set (by omega)
        · simp only [if_neg e]; exact ((hVs i (by omega)).since hs1).set (by omega)
      have hSn := (Since.step hS hs1).setCell (a := ⟨w.heap.size, k, none⟩) (Nat.le_refl _) x
      obtain ⟨a2, c2, rfl, _⟩ := hx
      clear hV hVs hV1 hxF hR hs1
      go_wp2
      go_roundg (n - (k + 1))
      case measure => go_light; omega
      case rel => go_light; exact ⟨k + 1, by omega, rfl, by go_num, hSn, hRn⟩
    · obtain rfl : k = n := by omega
      go_wp2
      go_ret
      exact ⟨⟨rfl, hR.out⟩, hS⟩
end Go.Proofs.Qxb6600184a
