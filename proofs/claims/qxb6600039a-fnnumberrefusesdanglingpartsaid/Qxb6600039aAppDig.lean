/-
  jsb1AppendDigits, walked.
-/
import Derived.Test.Qxb6600039aBytes
import Derived.Test.Qxb6600039aDigits
namespace Go.Proofs.Qxb6600039a
open Go.RowKit Sc

set_option maxHeartbeats 1600000 in
set_option maxRecDepth 100000 in
theorem app_digits (w0 w : World) (B K cap : Nat) (l : List Int) (a : Option Addr) (n c : Nat) (f : Nat → Int) (hn : n ≤ 65536) (hd : IsInts w0 .u8 a n f) (hby : ∀ i, i < n → 0 ≤ f i ∧ f i ≤ 255) (hs0 : w0.Since w0.heap.size w) (hB0 : w0.heap.size ≤ B) (hB : B < w.heap.size) (hfit : K + n ≤ cap)
    (hown : w.ownsRow B 5 1 (.slice (some ⟨B, 0, none⟩) K cap) K (bl l)) :
    Calls Try.prog 24 #[.slice (some ⟨B, 0, none⟩) K cap, .slice a n c] w fun e w' => ∃ ds : List Int, ds.length = n ∧ (∀ x ∈ ds, dig x = true) ∧ e = .returned (.slice (some ⟨B, 0, none⟩) (K + n) cap) ∧ w'.ownsRow B 5 1 (.slice (some ⟨B, 0, none⟩) (K + n) cap) (K + n) (bl (l ++ ds)) ∧ w.Since B w' := by
  obtain ⟨inf, hi, hz0, hz1, hz2⟩ := info_parts Try.info5
  have HB : Hid (∀ i, i < n → 0 ≤ f i ∧ f i ≤ 255) := hby
  have HO : Hid (w.ownsRow B 5 1 (.slice (some ⟨B, 0, none⟩) K cap) K (bl l)) := hown
  clear hby hown
  go_enter Try.func24, Try.ntmps24
  go_wp2
  go_loopg [0, 5] n (fun g s0 s5 wr => ∃ (k : Nat) (ds : List Int), k ≤ n ∧ g = n - k ∧ s5 = .int .i64 k ∧ s0 = .slice (some ⟨B, 0, none⟩) (K + k) cap ∧ wr.ownsRow B 5 1 (.slice (some ⟨B, 0, none⟩) (K + k) cap) (K + k) (bl (l ++ ds)) ∧ Hid (ds.length = k ∧ ∀ x ∈ ds, dig x = true) ∧ w.Since B wr)
  case atStart => exact ⟨0, [], Nat.zero_le _, rfl, rfl, rfl, by simpa using HO.out, ⟨rfl, by simp⟩, World.Since.refl _ _⟩
  case round =>
    clear HO
    obtain ⟨k, ds, hk, hgk, rfl, rfl, hown, hP, hS⟩ := hrel
    by_cases hlt : k < n
    · obtain ⟨b, off, rfl, hb, hc⟩ := hd (by omega)
      have hz : (k : Int) < (n : Int) := by omega
      have g0 : wr.cell? ⟨b, off + k, none⟩ = some (.int .u8 (f k)) := by
        rw [hS.cell (a := ⟨b, off + k, none⟩) (by show b < B; omega), hs0.cell (a := ⟨b, off + k, none⟩) hb]; exact hc k hlt
      obtain ⟨b0, b1⟩ := HB.out k hlt
      obtain ⟨x, hx⟩ : ∃ x, x = f k := ⟨_, rfl⟩
      rw [← hx] at g0 b0 b1
      have hsz := hS.size
      clear hx hc hd
      have hp : Hid ((ds ++ [48 + x % 10]).length = k + 1 ∧ ∀ y ∈ ds ++ [48 + x % 10], dig y = true) := by
        obtain ⟨h1, h2⟩ := hP.out
        refine ⟨by simp [h1], fun y hy => ?_⟩
        rcases List.mem_append.1 hy with h | h
        · exact h2 y h
        · simp only [List.mem_singleton] at h
          subst h
          simp [dig]; omega
      clear hP
      go_wp2_with (at_builtin; refine wpList_append_fits _ rfl (.tmp 12) (.tmp 19) 22 rfl B 5 inf 1 Try.underlying22 hi hz1 B (K + k) cap (bl (l ++ ds)) rfl (hown.alloc _) ⟨wr.heap.size, 0, none⟩ 1 1 (bl [48 + x % 10]) rfl rfl (news_new wr (bl [48 + x % 10]) 5) (bl_one _) (by omega) ?_)
      intro w1 hown' hgrow
      have o1 : w1.ownsRow B 5 1 (.slice (some ⟨B, 0, none⟩) (K + (k + 1)) cap) (K + (k + 1)) (bl (l ++ (ds ++ [48 + x % 10]))) := by
        rw [← List.append_assoc, bl_app]; exact hown'
      have s1 : w.Since B w1 := (hS.alloc (by omega) _).grown hgrow (by simp; omega) (fun k hk => by cases hk; exact Nat.le_refl _)
      clear hgrow hown hown' hS
      go_wp2
      go_roundg (n - (k + 1))
      case measure => go_light; omega
      case rel => go_light; exact ⟨k + 1, ds ++ [48 + x % 10], by omega, rfl, by go_num, rfl, o1, hp, s1⟩
    · have hz : ¬ (k : Int) < (n : Int) := by omega
      obtain rfl : k = n := by omega
      go_wp2
      go_ret
      exact ⟨ds, hP.out.1, hP.out.2, rfl, hown, hS⟩
end Go.Proofs.Qxb6600039a
