/-
  toZZ, zzIn, zzOut, cloneSpans (seat 061a): spans copied into a new row.
-/
import Derived.Test.Qxb6600061aSpans
import Derived.Deep.RegionHeld3
import Derived.Deep.DrawnRows
namespace Go.Proofs.Qxb6600061a
open Go.RowKit

theorem Try.info35 : (Try.prog.info? 35).map (fun i => (i.zero, i.size, i.bytes)) = some (some (.agg #[.int .i64 0, .int .i64 0, .map none, .int .i64 0, .slice none 0 0]), 5, 56) := by kernel_rfl
theorem Try.size35 : (Try.prog.info? 35).map (·.size) = some 5 := by kernel_rfl

theorem cell_else {b B : Nat} (hne : b ≠ B) (w : World) (o o' : Nat) (v : Value) : (w.setCell ⟨B, o', none⟩ v).cell? ⟨b, o, none⟩ = w.cell? ⟨b, o, none⟩ :=
  World.cell?_of_block (Go.Deep.blk_setCell_other _ _ _ _ hne)

theorem Try.info64 : (Try.prog.info? 64).map (fun i => (i.zero, i.size, i.bytes)) = some (some (.agg #[.int .i64 0, .int .i64 0, .map none, .int .i64 0, .slice none 0 0]), 5, 56) := by kernel_rfl
theorem Try.info31 : (Try.prog.info? 31).map (fun i => (i.zero, i.size, i.bytes)) = some (some (.agg #[.int .i64 0, .int .i64 0, .int .i64 0, .slice none 0 0]), 4, 48) := by kernel_rfl

set_option maxHeartbeats 1600000 in
theorem toZZ_any (w : World) (a : Option Addr) (n c : Nat) (S : Nat → Sp) (hn : n ≤ 1048576) (h : IsSps4 w a n S) :
    Calls Try.prog 15 #[.slice a n c] w fun e w' => e = .returned (.slice (some ⟨w.heap.size, 0, none⟩) n n) ∧ w.Since w.heap.size w' ∧ IsSps5 w' (some ⟨w.heap.size, 0, none⟩) n S := by
  have hmk := run_make_rows (P := Try.prog) 27 35 _ 5 56 Try.underlying27 Try.info35 .i64 .i64 n (by omega) (by omega)
  go_enter Try.func15, Try.ntmps15
  go_wp2
  clear hmk
  go_loopg [4] n (fun g i wr => ∃ k : Nat, k ≤ n ∧ g = n - k ∧ i = .int .i64 k ∧ Made5 w wr n k S)
  case atStart => exact ⟨0, Nat.zero_le _, rfl, rfl, (World.Since.refl _ _).alloc (Nat.le_refl _) _, by simpa [size_madeCells] using Room.made w (madeCells #[.int .i64 0, .int .i64 0, .map none, .int .i64 0, .slice none 0 0] (n * 5)) 35, fun j hj => absurd hj (by omega)⟩
  case round =>
    obtain ⟨k, hk, rfl, rfl, hM⟩ := hrel
    by_cases hlt : k < n
    · obtain ⟨b, off, rfl, hc⟩ := h (by omega)
      have hb0 := (hc k hlt).lt
      have hz : (k : Int) < (n : Int) := by omega
      have s := (((hc k hlt).below).mono (fun x hx => Nat.ne_of_lt hx)).since hM.since (Nat.le_refl _)
      obtain ⟨hb, c0, c1, c2, wa, wc, c3, hwz, hwn, hwl⟩ := s
      have ht := hM.next hlt
      have hne : b ≠ w.heap.size := Nat.ne_of_lt hb0
      obtain ⟨y0, r0⟩ := Option.isSome_iff_exists.1 (ht 0 (by omega)).1
      obtain ⟨y1, r1⟩ := Option.isSome_iff_exists.1 (ht 1 (by omega)).1
      obtain ⟨y2, r2⟩ := Option.isSome_iff_exists.1 (ht 2 (by omega)).1
      obtain ⟨y3, r3⟩ := Option.isSome_iff_exists.1 (ht 3 (by omega)).1
      obtain ⟨y4, r4⟩ := Option.isSome_iff_exists.1 (ht 4 (by omega)).1
      have f0 := (ht 0 (by omega)).2
      have f1 := (ht 1 (by omega)).2
      have f2 := (ht 2 (by omega)).2
      have f3 := (ht 3 (by omega)).2
      have f4 := (ht 4 (by omega)).2
      rw [Nat.add_zero] at r0 f0
      have hM' := (show Hid _ from hM.step hlt hwz hwn hwl)
      clear hc h hwz hwn hwl hM ht
      go_wp2
      go_region_held3 (fun w' => w'.cell? ⟨b, off + k * 4, none⟩ = some (.int .i64 (S k).lo) ∧ w'.cell? ⟨b, off + k * 4 + 1, none⟩ = some (.int .i64 (S k).hi) ∧ w'.cell? ⟨b, off + k * 4 + 2, none⟩ = some (.int .i64 (S k).pend) ∧ w'.cell? ⟨b, off + k * 4 + 3, none⟩ = some (.slice wa (S k).wl.length wc)) (first | (simp only [World.cell?_drew, cell_else hne]; exact ⟨c0, c1, c2, c3⟩) | go_keep) (fail)
      clear c0 c1 c2 c3 r0 r1 r2 r3 r4 f0 f1 f2 f3 f4
      go_wp2
      go_roundg (n - (k + 1))
      case measure => go_light; omega
      case rel => go_light; exact ⟨k + 1, by omega, rfl, by go_num, hM'.out⟩
    · go_wp2
      go_ret
      exact ⟨rfl, hM.since, hM.all (by omega)⟩

set_option maxHeartbeats 400000 in
theorem zzIn_nil (w : World) : Calls Try.prog 39 #[.slice none 0 0] w fun e w' => e = .returned (.slice none 0 0) ∧ w' = w := by
  have q : ∀ (w : World) (a : Option Addr) (n c : Nat), (binOp .eql 27 (.slice a n c) (.slice none 0 0)).run Try.prog w = .ok (.bool a.isNone) w := fun w a n c => Lib.run_eql_slice_nil w 27 _ a n c 0 0 Try.underlying27
  go_enter Try.func39, Try.ntmps39
  go_wp2
  go_ret
  exact ⟨rfl, rfl⟩

set_option maxHeartbeats 1600000 in
theorem zzIn_some (w : World) (a : Addr) (n c : Nat) (S : Nat → Sp) (hn : n ≤ 1048576) (h : IsSps5 w (some a) n S) :
    Calls Try.prog 39 #[.slice (some a) n c] w fun e w' => e = .returned (.slice (some ⟨w.heap.size, 0, none⟩) n n) ∧ w.Since w.heap.size w' ∧ IsSps5 w' (some ⟨w.heap.size, 0, none⟩) n S := by
  have q : ∀ (w : World) (a : Option Addr) (n c : Nat), (binOp .eql 27 (.slice a n c) (.slice none 0 0)).run Try.prog w = .ok (.bool a.isNone) w := fun w a n c => Lib.run_eql_slice_nil w 27 _ a n c 0 0 Try.underlying27
  have hmk := run_make_rows (P := Try.prog) 57 64 _ 5 56 Try.underlying57 Try.info64 .i64 .i64 n (by omega) (by omega)
  go_enter Try.func39, Try.ntmps39
  go_wp2
  clear hmk q
  go_loopg [4] n (fun g i wr => ∃ k : Nat, k ≤ n ∧ g = n - k ∧ i = .int .i64 k ∧ Made5 w wr n k S)
  case atStart => exact ⟨0, Nat.zero_le _, rfl, rfl, (World.Since.refl _ _).alloc (Nat.le_refl _) _, by simpa [size_madeCells] using Room.made w (madeCells #[.int .i64 0, .int .i64 0, .map none, .int .i64 0, .slice none 0 0] (n * 5)) 64, fun j hj => absurd hj (by omega)⟩
  case round =>
    obtain ⟨k, hk, rfl, rfl, hM⟩ := hrel
    by_cases hlt : k < n
    · obtain ⟨b, off, ea, hc⟩ := h (by omega)
      obtain rfl := Option.some.inj ea
      have hb0 := (hc k hlt).lt
      have hz : (k : Int) < (n : Int) := by omega
      have s := (((hc k hlt).below).mono (fun x hx => Nat.ne_of_lt hx)).since hM.since (Nat.le_refl _)
      obtain ⟨hb, c0, c1, c2, c3, wa, wc, c4, hwz, hwn, hwl⟩ := s
      have ht := hM.next hlt
      have hne : b ≠ w.heap.size := Nat.ne_of_lt hb0
      obtain ⟨y0, r0⟩ := Option.isSome_iff_exists.1 (ht 0 (by omega)).1
      obtain ⟨y1, r1⟩ := Option.isSome_iff_exists.1 (ht 1 (by omega)).1
      obtain ⟨y2, r2⟩ := Option.isSome_iff_exists.1 (ht 2 (by omega)).1
      obtain ⟨y3, r3⟩ := Option.isSome_iff_exists.1 (ht 3 (by omega)).1
      obtain ⟨y4, r4⟩ := Option.isSome_iff_exists.1 (ht 4 (by omega)).1
      have f0 := (ht 0 (by omega)).2
      have f1 := (ht 1 (by omega)).2
      have f2 := (ht 2 (by omega)).2
      have f3 := (ht 3 (by omega)).2
      have f4 := (ht 4 (by omega)).2
      rw [Nat.add_zero] at r0 f0
      have hM' := (show Hid _ from hM.step hlt hwz hwn hwl)
      clear hc h hwz hwn hwl hM ht ea
      go_wp2
      go_region_held3 (fun w' => w'.cell? ⟨b, off + k * 5, none⟩ = some (.int .i64 (S k).lo) ∧ w'.cell? ⟨b, off + k * 5 + 1, none⟩ = some (.int .i64 (S k).hi) ∧ w'.cell? ⟨b, off + k * 5 + 2, none⟩ = some (.map none) ∧ w'.cell? ⟨b, off + k * 5 + 3, none⟩ = some (.int .i64 (S k).pend) ∧ w'.cell? ⟨b, off + k * 5 + 4, none⟩ = some (.slice wa (S k).wl.length wc)) (first | (simp only [World.cell?_drew, cell_else hne]; exact ⟨c0, c1, c2, c3, c4⟩) | go_keep) (fail)
      clear c0 c1 c2 c3 c4 r0 r1 r2 r3 r4 f0 f1 f2 f3 f4
      go_wp2
      go_roundg (n - (k + 1))
      case measure => go_light; omega
      case rel => go_light; exact ⟨k + 1, by omega, rfl, by go_num, hM'.out⟩
    · go_wp2
      go_ret
      exact ⟨rfl, hM.since, hM.all (by omega)⟩

theorem zzIn_any (w : World) (a : Option Addr) (n c : Nat) (S : Nat → Sp) (hn : n ≤ 1048576) (hz : a = none → n = 0 ∧ c = 0) (h : IsSps5 w a n S) :
    Calls Try.prog 39 #[.slice a n c] w fun e w' => ∃ a' c', e = .returned (.slice a' n c') ∧ (a' = none → n = 0 ∧ c' = 0) ∧ n ≤ c' ∧ w.Since w.heap.size w' ∧ IsSps5 w' a' n S := by
  cases a with
  | none =>
    obtain ⟨rfl, rfl⟩ := hz rfl
    exact (zzIn_nil w).mono fun e w' ⟨he, hw⟩ => ⟨none, 0, he, fun _ => ⟨rfl, rfl⟩, Nat.le_refl _, hw ▸ World.Since.refl _ _, fun h => absurd h (by omega)⟩
  | some a => exact (zzIn_some w a n c S hn h).mono fun e w' ⟨he, hs, hr⟩ => ⟨_, n, he, (fun h => by cases h), Nat.le_refl _, hs, hr⟩

set_option maxHeartbeats 400000 in
theorem zzOut_nil (w : World) : Calls Try.prog 37 #[.slice none 0 0] w fun e w' => e = .returned (.slice none 0 0) ∧ w' = w := by
  have q : ∀ (w : World) (a : Option Addr) (n c : Nat), (binOp .eql 57 (.slice a n c) (.slice none 0 0)).run Try.prog w = .ok (.bool a.isNone) w := fun w a n c => Lib.run_eql_slice_nil w 57 _ a n c 0 0 Try.underlying57
  go_enter Try.func37, Try.ntmps37
  go_wp2
  go_ret
  exact ⟨rfl, rfl⟩

set_option maxHeartbeats 1600000 in
theorem zzOut_some (w : World) (a : Addr) (n c : Nat) (S : Nat → Sp) (hn : n ≤ 1048576) (h : IsSps5 w (some a) n S) :
    Calls Try.prog 37 #[.slice (some a) n c] w fun e w' => e = .returned (.slice (some ⟨w.heap.size, 0, none⟩) n n) ∧ w.Since w.heap.size w' ∧ IsSps5 w' (some ⟨w.heap.size, 0, none⟩) n S := by
  have q : ∀ (w : World) (a : Option Addr) (n c : Nat), (binOp .eql 57 (.slice a n c) (.slice none 0 0)).run Try.prog w = .ok (.bool a.isNone) w := fun w a n c => Lib.run_eql_slice_nil w 57 _ a n c 0 0 Try.underlying57
  have hmk := run_make_rows (P := Try.prog) 27 35 _ 5 56 Try.underlying27 Try.info35 .i64 .i64 n (by omega) (by omega)
  go_enter Try.func37, Try.ntmps37
  go_wp2
  clear hmk q
  go_loopg [4] n (fun g i wr => ∃ k : Nat, k ≤ n ∧ g = n - k ∧ i = .int .i64 k ∧ Made5 w wr n k S)
  case atStart => exact ⟨0, Nat.zero_le _, rfl, rfl, (World.Since.refl _ _).alloc (Nat.le_refl _) _, by simpa [size_madeCells] using Room.made w (madeCells #[.int .i64 0, .int .i64 0, .map none, .int .i64 0, .slice none 0 0] (n * 5)) 35, fun j hj => absurd hj (by omega)⟩
  case round =>
    obtain ⟨k, hk, rfl, rfl, hM⟩ := hrel
    by_cases hlt : k < n
    · obtain ⟨b, off, ea, hc⟩ := h (by omega)
      obtain rfl := Option.some.inj ea
      have hb0 := (hc k hlt).lt
      have hz : (k : Int) < (n : Int) := by omega
      have s := (((hc k hlt).below).mono (fun x hx => Nat.ne_of_lt hx)).since hM.since (Nat.le_refl _)
      obtain ⟨hb, c0, c1, c2, c3, wa, wc, c4, hwz, hwn, hwl⟩ := s
      have ht := hM.next hlt
      have hne : b ≠ w.heap.size := Nat.ne_of_lt hb0
      obtain ⟨y0, r0⟩ := Option.isSome_iff_exists.1 (ht 0 (by omega)).1
      obtain ⟨y1, r1⟩ := Option.isSome_iff_exists.1 (ht 1 (by omega)).1
      obtain ⟨y2, r2⟩ := Option.isSome_iff_exists.1 (ht 2 (by omega)).1
      obtain ⟨y3, r3⟩ := Option.isSome_iff_exists.1 (ht 3 (by omega)).1
      obtain ⟨y4, r4⟩ := Option.isSome_iff_exists.1 (ht 4 (by omega)).1
      have f0 := (ht 0 (by omega)).2
      have f1 := (ht 1 (by omega)).2
      have f2 := (ht 2 (by omega)).2
      have f3 := (ht 3 (by omega)).2
      have f4 := (ht 4 (by omega)).2
      rw [Nat.add_zero] at r0 f0
      have hM' := (show Hid _ from hM.step hlt hwz hwn hwl)
      clear hc h hwz hwn hwl hM ht ea
      go_wp2
      go_region_held3 (fun w' => w'.cell? ⟨b, off + k * 5, none⟩ = some (.int .i64 (S k).lo) ∧ w'.cell? ⟨b, off + k * 5 + 1, none⟩ = some (.int .i64 (S k).hi) ∧ w'.cell? ⟨b, off + k * 5 + 2, none⟩ = some (.map none) ∧ w'.cell? ⟨b, off + k * 5 + 3, none⟩ = some (.int .i64 (S k).pend) ∧ w'.cell? ⟨b, off + k * 5 + 4, none⟩ = some (.slice wa (S k).wl.length wc)) (first | (simp only [World.cell?_drew, cell_else hne]; exact ⟨c0, c1, c2, c3, c4⟩) | go_keep) (fail)
      clear c0 c1 c2 c3 c4 r0 r1 r2 r3 r4 f0 f1 f2 f3 f4
      go_wp2
      go_roundg (n - (k + 1))
      case measure => go_light; omega
      case rel => go_light; exact ⟨k + 1, by omega, rfl, by go_num, hM'.out⟩
    · go_wp2
      go_ret
      exact ⟨rfl, hM.since, hM.all (by omega)⟩

theorem zzOut_any (w : World) (a : Option Addr) (n c : Nat) (S : Nat → Sp) (hn : n ≤ 1048576) (hz : a = none → n = 0 ∧ c = 0) (h : IsSps5 w a n S) :
    Calls Try.prog 37 #[.slice a n c] w fun e w' => ∃ a' c', e = .returned (.slice a' n c') ∧ (a' = none → n = 0 ∧ c' = 0) ∧ n ≤ c' ∧ w.Since w.heap.size w' ∧ IsSps5 w' a' n S := by
  cases a with
  | none =>
    obtain ⟨rfl, rfl⟩ := hz rfl
    exact (zzOut_nil w).mono fun e w' ⟨he, hw⟩ => ⟨none, 0, he, fun _ => ⟨rfl, rfl⟩, Nat.le_refl _, hw ▸ World.Since.refl _ _, fun h => absurd h (by omega)⟩
  | some a => exact (zzOut_some w a n c S hn h).mono fun e w' ⟨he, hs, hr⟩ => ⟨_, n, he, (fun h => by cases h), Nat.le_refl _, hs, hr⟩
end Go.Proofs.Qxb6600061a
