/-
  cloneSpans (seat 061a): a deep copy.
-/
import Derived.Test.Qxb6600061aCopy
namespace Go.Proofs.Qxb6600061a
open Go.RowKit

theorem cloneL (w : World) (wa : Option Addr) (wc : Nat) (l : List Int) (hl : l.length ≤ 1048576) (hz : wa = none → l = [] ∧ wc = 0) (h : IsList w wa l) :
    Calls Try.prog 13 #[.slice wa l.length wc] w fun e w' => ∃ a' c', e = .returned (.slice a' l.length c') ∧ (a' = none → l = [] ∧ c' = 0) ∧ (0 < l.length → ∀ x, a' = some x → w.heap.size ≤ x.block) ∧ w.Since w.heap.size w' ∧ IsList w' a' l := by
  cases wa with
  | none =>
    obtain ⟨rfl, rfl⟩ := hz rfl
    exact (clone_nil w).mono fun e w' ⟨he, hw⟩ => ⟨none, 0, he, fun _ => ⟨rfl, rfl⟩, (fun h => by simp at h), hw ▸ World.Since.refl _ _, fun h => by simp at h⟩
  | some a => exact (clone_some w a l.length wc _ hl h).mono fun e w' ⟨he, hs, hr, _⟩ => ⟨_, _, he, (fun h => by cases h), (fun _ x hx => by cases hx; exact Nat.le_refl _), hs, rowIs.isInts hr⟩

set_option maxHeartbeats 400000 in
theorem cloneSpans_nil (w : World) : Calls Try.prog 12 #[.slice none 0 0] w fun e w' => e = .returned (.slice none 0 0) ∧ w' = w := by
  have q : ∀ (w : World) (a : Option Addr) (n c : Nat), (binOp .eql 22 (.slice a n c) (.slice none 0 0)).run Try.prog w = .ok (.bool a.isNone) w := fun w a n c => Lib.run_eql_slice_nil w 22 _ a n c 0 0 Try.underlying22
  go_enter Try.func12, Try.ntmps12
  go_wp2
  go_ret
  exact ⟨rfl, rfl⟩

attribute [local go_sem ↓] Go.wp_at_zero Go.wp_at_succ

set_option maxHeartbeats 3200000 in
theorem cloneSpans_some (w : World) (a : Addr) (n c : Nat) (S : Nat → Sp) (hn : n ≤ 1048576) (hW : ∀ i, i < n → (S i).wl.length ≤ 1048576) (h : IsSps4 w (some a) n S) :
    Calls Try.prog 12 #[.slice (some a) n c] w fun e w' => e = .returned (.slice (some ⟨w.heap.size, 0, none⟩) n n) ∧ w.Since w.heap.size w' ∧ IsSps4 w' (some ⟨w.heap.size, 0, none⟩) n S := by
  have q : ∀ (w : World) (a : Option Addr) (n c : Nat), (binOp .eql 22 (.slice a n c) (.slice none 0 0)).run Try.prog w = .ok (.bool a.isNone) w := fun w a n c => Lib.run_eql_slice_nil w 22 _ a n c 0 0 Try.underlying22
  have hmk := run_make_rows (P := Try.prog) 22 31 _ 4 48 Try.underlying22 Try.info31 .i64 .i64 n (by omega) (by omega)
  go_enter Try.func12, Try.ntmps12
  go_wp2
  clear hmk q
  go_loopg [4] n (fun g i wr => ∃ k : Nat, k ≤ n ∧ g = n - k ∧ i = .int .i64 k ∧ Made4 w wr n k S)
  case atStart => exact ⟨0, Nat.zero_le _, rfl, rfl, (World.Since.refl _ _).alloc (Nat.le_refl _) _, by simpa [size_madeCells] using Room.made w (madeCells #[.int .i64 0, .int .i64 0, .int .i64 0, .slice none 0 0] (n * 4)) 31, fun j hj => absurd hj (by omega)⟩
  case round =>
    obtain ⟨k, hk, rfl, rfl, hM⟩ := hrel
    by_cases hlt : k < n
    · obtain ⟨b, off, ea, hc⟩ := h (by omega)
      obtain rfl := Option.some.inj ea
      have hb0 := (hc k hlt).lt
      have hz : (k : Int) < (n : Int) := by omega
      have hwk := hW k hlt
      have s := (hc k hlt).since hM.since (Nat.le_refl _)
      obtain ⟨hb, c0, c1, c2, wa, wc, c3, hwz, -, hwl⟩ := s
      have hne : b ≠ w.heap.size := Nat.ne_of_lt hb0
      have gk := (show Hid _ from hwk)
      have gz := (show Hid _ from hwz)
      have gl := (show Hid _ from hwl)
      have hM' := (show Hid _ from hM)
      have hlt' : Hid (k < n) := hlt
      clear hc h hwz hwl hM ea hW hwk
      go_wp2
      go_region_held3 (fun w' => w'.cell? ⟨b, off + k * 4, none⟩ = some (.int .i64 (S k).lo) ∧ w'.cell? ⟨b, off + k * 4 + 1, none⟩ = some (.int .i64 (S k).hi) ∧ w'.cell? ⟨b, off + k * 4 + 2, none⟩ = some (.int .i64 (S k).pend) ∧ w'.cell? ⟨b, off + k * 4 + 3, none⟩ = some (.slice wa (S k).wl.length wc)) (first | (simp only [World.cell?_drew]; exact ⟨c0, c1, c2, c3⟩) | (exact d03) | (simp only [cell_else hne]; exact d03))
        (first | (go_at_call 13; refine (cloneL wr.drew wa wc (S k).wl gk.out gz.out gl.out).mono ?_; rintro e w1 ⟨a', c', rfl, hz1, hb1, hs1, hl1⟩
                  have hs2 : wr.Since wr.heap.size w1 := ⟨hs1.os, hs1.tape, hs1.output, hs1.size, hs1.block⟩
                  have d03 := And.intro ((hs2.cell (a := ⟨b, off + k * 4, none⟩) hb).trans c0) (And.intro ((hs2.cell (a := ⟨b, off + k * 4 + 1, none⟩) hb).trans c1) (And.intro ((hs2.cell (a := ⟨b, off + k * 4 + 2, none⟩) hb).trans c2) ((hs2.cell (a := ⟨b, off + k * 4 + 3, none⟩) hb).trans c3)))
                  have hM1 := (show Hid _ from hM'.out.later hs2)
                  have hM2 := (show Hid _ from hM1.out.step0 hlt'.out hz1 (fun hp x hx => Nat.ne_of_gt (Nat.lt_of_lt_of_le hM'.out.room.1 (hb1 hp x hx))) hl1)
                  have ht := hM1.out.next hlt'.out
                  obtain ⟨y0, r0⟩ := Option.isSome_iff_exists.1 (ht 0 (by decide)).1
                  obtain ⟨y1, r1⟩ := Option.isSome_iff_exists.1 (ht 1 (by decide)).1
                  obtain ⟨y2, r2⟩ := Option.isSome_iff_exists.1 (ht 2 (by decide)).1
                  obtain ⟨y3, r3⟩ := Option.isSome_iff_exists.1 (ht 3 (by decide)).1
                  have f0 := (ht 0 (by decide)).2
                  have f1 := (ht 1 (by decide)).2
                  have f2 := (ht 2 (by decide)).2
                  have f3 := (ht 3 (by decide)).2
                  rw [Nat.add_zero] at r0 f0
                  clear hs1 hl1 hz1 hb1 ht))
      clear c0 c1 c2 c3 d03 r0 r1 r2 r3 f0 f1 f2 f3
      go_wp2
      go_roundg (n - (k + 1))
      case measure => go_light; omega
      case rel => go_light; exact ⟨k + 1, by omega, rfl, by go_num, hM2.out⟩
    · go_wp2
      go_ret
      exact ⟨rfl, hM.since, hM.all (by omega)⟩

theorem cloneSpans_any (w : World) (a : Option Addr) (n c : Nat) (S : Nat → Sp) (hn : n ≤ 1048576) (hW : ∀ i, i < n → (S i).wl.length ≤ 1048576) (hz : a = none → n = 0 ∧ c = 0) (h : IsSps4 w a n S) :
    Calls Try.prog 12 #[.slice a n c] w fun e w' => ∃ a' c', e = .returned (.slice a' n c') ∧ (a' = none → n = 0 ∧ c' = 0) ∧ n ≤ c' ∧ w.Since w.heap.size w' ∧ IsSps4 w' a' n S := by
  cases a with
  | none =>
    obtain ⟨rfl, rfl⟩ := hz rfl
    exact (cloneSpans_nil w).mono fun e w' ⟨he, hw⟩ => ⟨none, 0, he, fun _ => ⟨rfl, rfl⟩, Nat.le_refl _, hw ▸ World.Since.refl _ _, fun h => absurd h (by omega)⟩
  | some a => exact (cloneSpans_some w a n c S hn hW h).mono fun e w' ⟨he, hs, hr⟩ => ⟨_, n, he, (fun h => by cases h), Nat.le_refl _, hs, hr⟩
end Go.Proofs.Qxb6600061a
