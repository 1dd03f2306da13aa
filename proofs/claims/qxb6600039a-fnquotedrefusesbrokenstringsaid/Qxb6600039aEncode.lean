/-
  jsb1Encode, walked: what it writes passes the scan.
-/
import Derived.Test.Qxb6600039aBytes
namespace Go.Proofs.Qxb6600039a
open Go.RowKit Sc

set_option maxHeartbeats 3200000 in
set_option maxRecDepth 100000 in
theorem encode_any (w : World) (a : Option Addr) (n c : Nat) (f : Nat → Int) (hn : n ≤ 65536) (hd : IsInts w .u8 a n f) (hby : ∀ i, i < n → 0 ≤ f i ∧ f i ≤ 255) :
    Calls Try.prog 10 #[.slice a n c] w fun e w' => ∃ (a' : Option Addr) (c' : Nat) (out : List Int), e = .returned (.slice a' out.length c') ∧ Passes out ∧ out.length ≤ 6 * n ∧ w'.ownsRow w.heap.size 5 1 (.slice a' out.length c') out.length (bl out) ∧ w.Since w.heap.size w' := by
  obtain ⟨inf, hi, hz0, hz1, hz2⟩ := info_parts Try.info5
  have HB : Hid (∀ i, i < n → 0 ≤ f i ∧ f i ≤ 255) := hby
  clear hby
  go_enter Try.func10, Try.ntmps10
  go_wp2_with (at_make; refine wpList_make_own _ rfl _ _ 22 rfl w.heap.size 5 inf (.int .u8 0) 1 Try.underlying22 hi hz0 hz1 _ _ _ (n + 2) rfl rfl (by omega) ?b1 ?b2 ?b3 ?_)
  case b1 => rw [hz2]; omega
  case b2 => unfold maxLen; omega
  case b3 => exact Nat.le_refl _
  intro w0 hown0 hg0
  have s0 : w.Since w.heap.size w0 := (World.Since.refl _ _).grown hg0 (Nat.le_refl _) (fun k hk => by cases hk)
  clear hg0
  go_wp2
  go_loopg [3, 4] n (fun g s3 s4 wr => ∃ (k : Nat) (out : List Int) (va : Option Addr) (vc : Nat), k ≤ n ∧ g = n - k ∧ s4 = .int .i64 k ∧ s3 = .slice va out.length vc ∧ wr.ownsRow w.heap.size 5 1 (.slice va out.length vc) out.length (bl out) ∧ Hid (Passes out) ∧ out.length ≤ 6 * k ∧ w.Since w.heap.size wr)
  case atStart => exact ⟨0, [], some ⟨w.heap.size, 0, none⟩, n + 2, Nat.zero_le _, rfl, rfl, rfl, hown0, Passes.nil, Nat.le_refl _, s0⟩
  case round =>
    clear hown0 s0
    obtain ⟨k, out, va, vc, hk, hgk, rfl, rfl, hown, hP, hol, hS⟩ := hrel
    by_cases hlt : k < n
    · obtain ⟨b, off, rfl, hb, hc⟩ := hd (by omega)
      have hz : (k : Int) < (n : Int) := by omega
      have g0 : wr.cell? ⟨b, off + k, none⟩ = some (.int .u8 (f k)) := by rw [hS.cell (a := ⟨b, off + k, none⟩) hb]; exact hc k hlt
      obtain ⟨b0, b1⟩ := HB.out k hlt
      obtain ⟨x, hx⟩ : ∃ x, x = f k := ⟨_, rfl⟩
      rw [← hx] at g0 b0 b1
      have hsz := hS.size
      clear hx hc hd
      rcases (show x = 34 ∨ x = 92 ∨ x = 47 ∨ x = 10 ∨ x = 9 ∨ x = 13 ∨ x = 8 ∨ x = 12 ∨ (x < 32 ∧ x ≠ 10 ∧ x ≠ 9 ∧ x ≠ 13 ∧ x ≠ 8 ∧ x ≠ 12) ∨ (32 ≤ x ∧ x ≠ 34 ∧ x ≠ 92 ∧ x ≠ 47) by omega) with rfl | rfl | rfl | rfl | rfl | rfl | rfl | rfl | ⟨e0, e1, e2, e3, e4, e5⟩ | ⟨e0, e1, e2, e3⟩
      · -- 34
        have hp : Hid (Passes (out ++ [92, 34])) := hP.out.app (passes_two (by decide))
        go_wp2_with (at_builtin; refine wpList_append_own _ rfl _ _ 22 rfl w.heap.size 5 inf (.int .u8 0) 1 1 Try.underlying22 hi hz0 hz1 hz2 rfl (by decide) _ _ _ rfl (hown.alloc _) ⟨wr.heap.size, 0, none⟩ 2 2 (bl [92, 34]) rfl rfl (news_new wr (bl [92, 34]) 5) (bl_one _) (by unfold maxLen; omega) (by omega) (by simp; omega) ?_)
        intro v' w1 hown' hgrow _
        rw [← bl_app] at hown'
        have s1 : w.Since w.heap.size w1 := (hS.alloc hS.size _).grown hgrow (by simp; omega) (fun k hk => (hown.lt k hk).1)
        obtain ⟨va', vc', hv'⟩ := shape3 hown'
        subst hv'
        clear hgrow hown hS
        go_wp2
        go_roundg (n - (k + 1))
        case measure => go_light; omega
        case rel => go_light; exact ⟨k + 1, out ++ [92, 34], va', vc', by omega, rfl, by go_num, by rw [List.length_append]; rfl, by rw [List.length_append]; exact hown', hp, by rw [List.length_append]; simp only [List.length_cons, List.length_nil]; omega, s1⟩
      · -- 92
        have hp : Hid (Passes (out ++ [92, 92])) := hP.out.app (passes_two (by decide))
        go_wp2_with (at_builtin; refine wpList_append_own _ rfl _ _ 22 rfl w.heap.size 5 inf (.int .u8 0) 1 1 Try.underlying22 hi hz0 hz1 hz2 rfl (by decide) _ _ _ rfl (hown.alloc _) ⟨wr.heap.size, 0, none⟩ 2 2 (bl [92, 92]) rfl rfl (news_new wr (bl [92, 92]) 5) (bl_one _) (by unfold maxLen; omega) (by omega) (by simp; omega) ?_)
        intro v' w1 hown' hgrow _
        rw [← bl_app] at hown'
        have s1 : w.Since w.heap.size w1 := (hS.alloc hS.size _).grown hgrow (by simp; omega) (fun k hk => (hown.lt k hk).1)
        obtain ⟨va', vc', hv'⟩ := shape3 hown'
        subst hv'
        clear hgrow hown hS
        go_wp2
        go_roundg (n - (k + 1))
        case measure => go_light; omega
        case rel => go_light; exact ⟨k + 1, out ++ [92, 92], va', vc', by omega, rfl, by go_num, by rw [List.length_append]; rfl, by rw [List.length_append]; exact hown', hp, by rw [List.length_append]; simp only [List.length_cons, List.length_nil]; omega, s1⟩
      · -- 47
        have hp : Hid (Passes (out ++ [92, 47])) := hP.out.app (passes_two (by decide))
        go_wp2_with (at_builtin; refine wpList_append_own _ rfl _ _ 22 rfl w.heap.size 5 inf (.int .u8 0) 1 1 Try.underlying22 hi hz0 hz1 hz2 rfl (by decide) _ _ _ rfl (hown.alloc _) ⟨wr.heap.size, 0, none⟩ 2 2 (bl [92, 47]) rfl rfl (news_new wr (bl [92, 47]) 5) (bl_one _) (by unfold maxLen; omega) (by omega) (by simp; omega) ?_)
        intro v' w1 hown' hgrow _
        rw [← bl_app] at hown'
        have s1 : w.Since w.heap.size w1 := (hS.alloc hS.size _).grown hgrow (by simp; omega) (fun k hk => (hown.lt k hk).1)
        obtain ⟨va', vc', hv'⟩ := shape3 hown'
        subst hv'
        clear hgrow hown hS
        go_wp2
        go_roundg (n - (k + 1))
        case measure => go_light; omega
        case rel => go_light; exact ⟨k + 1, out ++ [92, 47], va', vc', by omega, rfl, by go_num, by rw [List.length_append]; rfl, by rw [List.length_append]; exact hown', hp, by rw [List.length_append]; simp only [List.length_cons, List.length_nil]; omega, s1⟩
      · -- 10
        have hp : Hid (Passes (out ++ [92, 110])) := hP.out.app (passes_two (by decide))
        go_wp2_with (at_builtin; refine wpList_append_own _ rfl _ _ 22 rfl w.heap.size 5 inf (.int .u8 0) 1 1 Try.underlying22 hi hz0 hz1 hz2 rfl (by decide) _ _ _ rfl (hown.alloc _) ⟨wr.heap.size, 0, none⟩ 2 2 (bl [92, 110]) rfl rfl (news_new wr (bl [92, 110]) 5) (bl_one _) (by unfold maxLen; omega) (by omega) (by simp; omega) ?_)
        intro v' w1 hown' hgrow _
        rw [← bl_app] at hown'
        have s1 : w.Since w.heap.size w1 := (hS.alloc hS.size _).grown hgrow (by simp; omega) (fun k hk => (hown.lt k hk).1)
        obtain ⟨va', vc', hv'⟩ := shape3 hown'
        subst hv'
        clear hgrow hown hS
        go_wp2
        go_roundg (n - (k + 1))
        case measure => go_light; omega
        case rel => go_light; exact ⟨k + 1, out ++ [92, 110], va', vc', by omega, rfl, by go_num, by rw [List.length_append]; rfl, by rw [List.length_append]; exact hown', hp, by rw [List.length_append]; simp only [List.length_cons, List.length_nil]; omega, s1⟩
      · -- 9
        have hp : Hid (Passes (out ++ [92, 116])) := hP.out.app (passes_two (by decide))
        go_wp2_with (at_builtin; refine wpList_append_own _ rfl _ _ 22 rfl w.heap.size 5 inf (.int .u8 0) 1 1 Try.underlying22 hi hz0 hz1 hz2 rfl (by decide) _ _ _ rfl (hown.alloc _) ⟨wr.heap.size, 0, none⟩ 2 2 (bl [92, 116]) rfl rfl (news_new wr (bl [92, 116]) 5) (bl_one _) (by unfold maxLen; omega) (by omega) (by simp; omega) ?_)
        intro v' w1 hown' hgrow _
        rw [← bl_app] at hown'
        have s1 : w.Since w.heap.size w1 := (hS.alloc hS.size _).grown hgrow (by simp; omega) (fun k hk => (hown.lt k hk).1)
        obtain ⟨va', vc', hv'⟩ := shape3 hown'
        subst hv'
        clear hgrow hown hS
        go_wp2
        go_roundg (n - (k + 1))
        case measure => go_light; omega
        case rel => go_light; exact ⟨k + 1, out ++ [92, 116], va', vc', by omega, rfl, by go_num, by rw [List.length_append]; rfl, by rw [List.length_append]; exact hown', hp, by rw [List.length_append]; simp only [List.length_cons, List.length_nil]; omega, s1⟩
      · -- 13
        have hp : Hid (Passes (out ++ [92, 114])) := hP.out.app (passes_two (by decide))
        go_wp2_with (at_builtin; refine wpList_append_own _ rfl _ _ 22 rfl w.heap.size 5 inf (.int .u8 0) 1 1 Try.underlying22 hi hz0 hz1 hz2 rfl (by decide) _ _ _ rfl (hown.alloc _) ⟨wr.heap.size, 0, none⟩ 2 2 (bl [92, 114]) rfl rfl (news_new wr (bl [92, 114]) 5) (bl_one _) (by unfold maxLen; omega) (by omega) (by simp; omega) ?_)
        intro v' w1 hown' hgrow _
        rw [← bl_app] at hown'
        have s1 : w.Since w.heap.size w1 := (hS.alloc hS.size _).grown hgrow (by simp; omega) (fun k hk => (hown.lt k hk).1)
        obtain ⟨va', vc', hv'⟩ := shape3 hown'
        subst hv'
        clear hgrow hown hS
        go_wp2
        go_roundg (n - (k + 1))
        case measure => go_light; omega
        case rel => go_light; exact ⟨k + 1, out ++ [92, 114], va', vc', by omega, rfl, by go_num, by rw [List.length_append]; rfl, by rw [List.length_append]; exact hown', hp, by rw [List.length_append]; simp only [List.length_cons, List.length_nil]; omega, s1⟩
      · -- 8
        have hp : Hid (Passes (out ++ [92, 98])) := hP.out.app (passes_two (by decide))
        go_wp2_with (at_builtin; refine wpList_append_own _ rfl _ _ 22 rfl w.heap.size 5 inf (.int .u8 0) 1 1 Try.underlying22 hi hz0 hz1 hz2 rfl (by decide) _ _ _ rfl (hown.alloc _) ⟨wr.heap.size, 0, none⟩ 2 2 (bl [92, 98]) rfl rfl (news_new wr (bl [92, 98]) 5) (bl_one _) (by unfold maxLen; omega) (by omega) (by simp; omega) ?_)
        intro v' w1 hown' hgrow _
        rw [← bl_app] at hown'
        have s1 : w.Since w.heap.size w1 := (hS.alloc hS.size _).grown hgrow (by simp; omega) (fun k hk => (hown.lt k hk).1)
        obtain ⟨va', vc', hv'⟩ := shape3 hown'
        subst hv'
        clear hgrow hown hS
        go_wp2
        go_roundg (n - (k + 1))
        case measure => go_light; omega
        case rel => go_light; exact ⟨k + 1, out ++ [92, 98], va', vc', by omega, rfl, by go_num, by rw [List.length_append]; rfl, by rw [List.length_append]; exact hown', hp, by rw [List.length_append]; simp only [List.length_cons, List.length_nil]; omega, s1⟩
      · -- 12
        have hp : Hid (Passes (out ++ [92, 102])) := hP.out.app (passes_two (by decide))
        go_wp2_with (at_builtin; refine wpList_append_own _ rfl _ _ 22 rfl w.heap.size 5 inf (.int .u8 0) 1 1 Try.underlying22 hi hz0 hz1 hz2 rfl (by decide) _ _ _ rfl (hown.alloc _) ⟨wr.heap.size, 0, none⟩ 2 2 (bl [92, 102]) rfl rfl (news_new wr (bl [92, 102]) 5) (bl_one _) (by unfold maxLen; omega) (by omega) (by simp; omega) ?_)
        intro v' w1 hown' hgrow _
        rw [← bl_app] at hown'
        have s1 : w.Since w.heap.size w1 := (hS.alloc hS.size _).grown hgrow (by simp; omega) (fun k hk => (hown.lt k hk).1)
        obtain ⟨va', vc', hv'⟩ := shape3 hown'
        subst hv'
        clear hgrow hown hS
        go_wp2
        go_roundg (n - (k + 1))
        case measure => go_light; omega
        case rel => go_light; exact ⟨k + 1, out ++ [92, 102], va', vc', by omega, rfl, by go_num, by rw [List.length_append]; rfl, by rw [List.length_append]; exact hown', hp, by rw [List.length_append]; simp only [List.length_cons, List.length_nil]; omega, s1⟩
      · -- a control byte
        have u1 : (x == 34) = false := by simp; omega
        have u2 : (x == 92) = false := by simp; omega
        have u3 : (x == 47) = false := by simp; omega
        have u4 : (x == 10) = false := by simp [e1]
        have u5 : (x == 9) = false := by simp [e2]
        have u6 : (x == 13) = false := by simp [e3]
        have u7 : (x == 8) = false := by simp [e4]
        have u8 : (x == 12) = false := by simp [e5]
        clear e1 e2 e3 e4 e5
        go_wp2_with fail
        refine (hexd_any _ _ _ (by omega) (by omega)).mono ?_
        rintro e w1 ⟨⟨y1, rfl, hy1⟩, rfl⟩
        go_wp2_with fail
        refine (hexd_any _ _ _ (by omega) (by omega)).mono ?_
        rintro e w1 ⟨⟨y2, rfl, hy2⟩, rfl⟩
        have hp : Hid (Passes (out ++ [92, 117, 48, 48, y1, y2])) := hP.out.app (passes_six (by decide) (by decide) hy1 hy2)
        clear hy1 hy2
        go_wp2_with (at_builtin; refine wpList_append_own _ rfl _ _ 22 rfl w.heap.size 5 inf (.int .u8 0) 1 1 Try.underlying22 hi hz0 hz1 hz2 rfl (by decide) _ _ _ rfl (hown.alloc _) ⟨wr.heap.size, 0, none⟩ 6 6 (bl [92, 117, 48, 48, y1, y2]) rfl rfl (news_new wr (bl [92, 117, 48, 48, y1, y2]) 5) (bl_one _) (by unfold maxLen; omega) (by omega) (by simp; omega) ?_)
        intro v' w1 hown' hgrow _
        rw [← bl_app] at hown'
        have s1 : w.Since w.heap.size w1 := (hS.alloc hS.size _).grown hgrow (by simp; omega) (fun k hk => (hown.lt k hk).1)
        obtain ⟨va', vc', hv'⟩ := shape3 hown'
        subst hv'
        clear hgrow hown hS
        go_wp2
        go_roundg (n - (k + 1))
        case measure => go_light; omega
        case rel => go_light; exact ⟨k + 1, out ++ [92, 117, 48, 48, y1, y2], va', vc', by omega, rfl, by go_num, by rw [List.length_append]; rfl, by rw [List.length_append]; exact hown', hp, by rw [List.length_append]; simp only [List.length_cons, List.length_nil]; omega, s1⟩
      · have u1 : (x == 34) = false := by simp [e1]
        have u2 : (x == 92) = false := by simp [e2]
        have u3 : (x == 47) = false := by simp [e3]
        have u4 : (x == 10) = false := by simp; omega
        have u5 : (x == 9) = false := by simp; omega
        have u6 : (x == 13) = false := by simp; omega
        have u7 : (x == 8) = false := by simp; omega
        have u8 : (x == 12) = false := by simp; omega
        have hp : Hid (Passes (out ++ [x])) := hP.out.app (passes_one (by omega) e1 e2)
        clear e1 e2 e3
        go_wp2_with (at_builtin; refine wpList_append_own _ rfl _ _ 22 rfl w.heap.size 5 inf (.int .u8 0) 1 1 Try.underlying22 hi hz0 hz1 hz2 rfl (by decide) _ _ _ rfl (hown.alloc _) ⟨wr.heap.size, 0, none⟩ 1 1 (bl [x]) rfl rfl (news_new wr (bl [x]) 5) (bl_one _) (by unfold maxLen; omega) (by omega) (by simp; omega) ?_)
        intro v' w1 hown' hgrow _
        rw [← bl_app] at hown'
        have s1 : w.Since w.heap.size w1 := (hS.alloc hS.size _).grown hgrow (by simp; omega) (fun k hk => (hown.lt k hk).1)
        obtain ⟨va', vc', hv'⟩ := shape3 hown'
        subst hv'
        clear hgrow hown hS
        go_wp2
        go_roundg (n - (k + 1))
        case measure => go_light; omega
        case rel => go_light; exact ⟨k + 1, out ++ [x], va', vc', by omega, rfl, by go_num, by rw [List.length_append]; rfl, by rw [List.length_append]; exact hown', hp, by rw [List.length_append]; simp only [List.length_cons, List.length_nil]; omega, s1⟩
    · go_wp2
      go_ret
      exact ⟨va, vc, out, rfl, hP.out, by omega, hown, hS⟩
end Go.Proofs.Qxb6600039a
