/-
  FnQuotedRefusesBrokenString, walked.
-/
import Derived.Test.Qxb6600039aEncode
import Derived.Test.Qxb6600039aNew
namespace Go.Proofs.Qxb6600039a
open Go.RowKit Sc

theorem range_by (l : List Int) : (List.range l.length).map (by_ l) = l := by
  apply List.ext_getElem?
  intro i
  by_cases h : i < l.length
  · simp [by_, List.getD, h]
  · rw [List.getElem?_eq_none (by simp; omega), List.getElem?_eq_none (by omega)]

/-! ### jsb1IsHex, jsb1IsEscapeLetter, zzBytes -/
theorem hex18_any (c : Int) (w : World) : Calls Try.prog 18 #[.int .u8 c] w fun e w' => e = .returned (.bool (hexB c)) ∧ w = w' := by
  by_cases h1 : 48 ≤ c ∧ c ≤ 57
  · obtain ⟨h1, h2⟩ := h1
    have e : hexB c = true := by simp [hexB, h1, h2]
    rw [e]
    go_enter Try.func18, Try.ntmps18
    go_wp2
    go_ret
    exact ⟨rfl, rfl⟩
  by_cases h3 : 97 ≤ c ∧ c ≤ 102
  · obtain ⟨h3, h4⟩ := h3
    have e : hexB c = true := by simp [hexB, h3, h4]
    rw [e]
    have k1 : 48 ≤ c := by omega
    have k2 : ¬ c ≤ 57 := by omega
    clear h1
    go_enter Try.func18, Try.ntmps18
    go_wp2
    go_ret
    exact ⟨rfl, rfl⟩
  by_cases h5 : 65 ≤ c ∧ c ≤ 70
  · obtain ⟨h5, h6⟩ := h5
    have e : hexB c = true := by simp [hexB, h5, h6]
    rw [e]
    have k1 : 48 ≤ c := by omega
    have k2 : ¬ c ≤ 57 := by omega
    have k3 : ¬ 97 ≤ c := by omega
    clear h1 h3
    go_enter Try.func18, Try.ntmps18
    go_wp2
    go_ret
    exact ⟨rfl, rfl⟩
  · have e : hexB c = false := by
      simp only [hexB, Bool.or_eq_false_iff, Bool.and_eq_false_iff, decide_eq_false_iff_not]
      omega
    rw [e]
    rcases (show c < 48 ∨ (57 < c ∧ c < 65) ∨ (70 < c ∧ c < 97) ∨ 102 < c by omega) with k | ⟨k, k'⟩ | ⟨k, k'⟩ | k <;> clear h1 h3 h5 <;>
      (go_enter Try.func18, Try.ntmps18
       go_wp2
       go_ret
       first | exact ⟨rfl, rfl⟩ | exact ⟨by simp; omega, rfl⟩)

theorem esc_any (c : Int) (w : World) : Calls Try.prog 17 #[.int .u8 c] w fun e w' => (∃ r, e = .returned (.bool r) ∧ (r = false → escB c = false ∧ ¬ c = 117)) ∧ w = w' := by
  by_cases h : escB c = true ∨ c = 117
  · have hor : c = 34 ∨ c = 92 ∨ c = 47 ∨ c = 98 ∨ c = 102 ∨ c = 110 ∨ c = 114 ∨ c = 116 ∨ c = 117 := by
      rcases h with h | h
      · have : c = 34 ∨ c = 92 ∨ c = 47 ∨ c = 98 ∨ c = 102 ∨ c = 110 ∨ c = 114 ∨ c = 116 := by simpa [escB, or_assoc] using h
        omega
      · omega
    clear h
    rcases hor with rfl | rfl | rfl | rfl | rfl | rfl | rfl | rfl | rfl <;>
      (go_enter Try.func17, Try.ntmps17
       go_wp2
       go_ret
       exact ⟨⟨true, rfl, (fun h => by cases h)⟩, rfl⟩)
  · have h1 : escB c = false := by cases e : escB c <;> simp_all
    have h2 : ¬ c = 117 := fun e => h (.inr e)
    obtain ⟨u1, u2, u3, u4, u5, u6, u7, u8⟩ : (c == 34) = false ∧ (c == 92) = false ∧ (c == 47) = false ∧ (c == 98) = false ∧ (c == 102) = false ∧ (c == 110) = false ∧ (c == 114) = false ∧ (c == 116) = false := by
      simpa [escB, and_assoc] using h1
    have u9 : (c == 117) = false := by simp [h2]
    have H : Hid (escB c = false ∧ ¬ c = 117) := ⟨h1, h2⟩
    clear h h1 h2
    go_enter Try.func17, Try.ntmps17
    go_wp2
    go_ret
    exact ⟨⟨false, rfl, fun _ => H.out⟩, rfl⟩

set_option maxHeartbeats 800000 in
theorem zzBroken (kd b q0 q1 q2 q3 : Int) (a1 a4 a5 : Option Addr) (n1 n4 n5 c1 c4 c5 : Nat) (w : World) (_h1 : n1 ≤ maxLen) (_h4 : n4 ≤ maxLen) (_h5 : n5 ≤ maxLen) :
    Calls Try.prog 16 #[.slice a1 n1 c1, .int .u8 kd, .int .u8 b, .agg #[.int .u8 q0, .int .u8 q1, .int .u8 q2, .int .u8 q3], .slice a4 n4 c4, .slice a5 n5 c5] w fun e w' => (∃ r, e = .returned (.bool r)) ∧ w.Since w.heap.size w' := by
  unfold maxLen at *
  go_enter Try.func16, Try.ntmps16
  go_wp2
  all_goals
    go_ret
    exact ⟨⟨_, rfl⟩, (World.Since.refl _ _).alloc (Nat.le_refl _) _⟩

/-- What the six ways share. -/
structure BrkIn (w : World) (a1 a4 a5 : Option Addr) (n1 n4 n5 c1 c4 c5 : Nat) (f1 f4 f5 : Nat → Int) : Prop where
  m1 : n1 ≤ maxLen
  m4 : n4 ≤ maxLen
  m5 : n5 ≤ maxLen
  z4 : a4 = none → n4 = 0 ∧ c4 = 0
  z5 : a5 = none → n5 = 0 ∧ c5 = 0
  h1 : IsInts w .u8 a1 n1 f1
  h4 : IsInts w .u8 a4 n4 f4
  h5 : IsInts w .u8 a5 n5 f5
  by1 : ∀ i, i < n1 → 0 ≤ f1 i ∧ f1 i ≤ 255

set_option maxHeartbeats 3200000 in
set_option maxRecDepth 100000 in
theorem brk0 (kd b q0 q1 q2 q3 : Int) (a1 a4 a5 : Option Addr) (n1 n4 n5 c1 c4 c5 : Nat) (f1 f4 f5 : Nat → Int) (w : World) (I : BrkIn w a1 a4 a5 n1 n4 n5 c1 c4 c5 f1 f4 f5) (k0 : 0 ≤ kd) (k255 : kd ≤ 255) (hk : kd % 6 = 0) :
    Calls Try.prog 4 #[.slice a1 n1 c1, .int .u8 kd, .int .u8 b, .agg #[.int .u8 q0, .int .u8 q1, .int .u8 q2, .int .u8 q3], .slice a4 n4 c4, .slice a5 n5 c5] w fun e w' => e = .returned (.bool true) ∧ w.Since w.heap.size w' := by
  obtain ⟨inf, hi, hz0, hz1, hz2⟩ := info_parts Try.info5
  have I' : Hid (BrkIn w a1 a4 a5 n1 n4 n5 c1 c4 c5 f1 f4 f5) := I
  clear I
  go_enter Try.func4, Try.ntmps4
  go_wp2_with fail
  refine (zzBroken _ _ _ _ _ _ _ _ _ _ _ _ _ _ _ _ I'.out.m1 I'.out.m4 I'.out.m5).mono ?_
  rintro e w1 ⟨⟨r, rfl⟩, s1'⟩
  have s0 : w.Since w.heap.size (w.alloc (Obj.cells #[Value.int IntKind.u8 q0, Value.int IntKind.u8 q1, Value.int IntKind.u8 q2, Value.int IntKind.u8 q3] 31)) := (World.Since.refl _ _).alloc (Nat.le_refl _) _
  have s1 := Since.step s0 s1'
  cases r
  · go_wp2
    go_ret
    exact ⟨rfl, s1⟩
  by_cases t1 : (65536 : Int) < n1
  · go_wp2
    go_ret
    exact ⟨rfl, s1⟩
  by_cases t2 : (65536 : Int) < n4
  · go_wp2
    go_ret
    exact ⟨rfl, s1⟩
  by_cases t3 : (65536 : Int) < n5
  · go_wp2
    go_ret
    exact ⟨rfl, s1⟩
  have l1 : n1 ≤ 65536 := by omega
  have l4 : n4 ≤ 65536 := by omega
  have l5 : n5 ≤ 65536 := by omega
  clear t1 t2 t3
  go_wp2_with fail
  refine (encode_any w1 a1 n1 c1 f1 l1 (I'.out.h1.since s1 (Nat.le_refl _)) I'.out.by1).mono ?_
  rintro e w3 ⟨ae, ce, out, rfl, hP, hol, hE, s3⟩
  have ss3 := Since.step s1 s3
  have HP : Hid (Passes out) := hP
  have iE := (owned_isInts hE).2
  have zE : ae = none → out.length = 0 ∧ ce = 0 := by
    intro h
    rcases hE.2 with ⟨hv, h0⟩ | ⟨g, cap, cur, hv, _⟩
    · simp only [Value.slice.injEq] at hv; exact ⟨h0, hv.2.2⟩
    · simp only [Value.slice.injEq] at hv; rw [h] at hv; cases hv.1
  have i4 := I'.out.h4.since ss3 (Nat.le_refl _)
  have i5 := I'.out.h5.since ss3 (Nat.le_refl _)
  have z4 := I'.out.z4
  have z5 := I'.out.z5
  clear s1 s0 s1' s3 hP hE
  go_wp2_with (at_make; refine wpList_make_own _ rfl _ _ 22 rfl w3.heap.size 5 inf (.int .u8 0) 1 Try.underlying22 hi hz0 hz1 _ _ _ (out.length + 8 + n4 + n5) rfl rfl (by omega) ?b1 ?b2 ?b3 ?_)
  case b1 => rw [hz2]; omega
  case b2 => unfold maxLen; omega
  case b3 => exact Nat.le_refl _
  intro w4 o4' hg4
  have o4 : w4.ownsRow w3.heap.size 5 1 (.slice (some ⟨w3.heap.size, 0, none⟩) 0 (out.length + 8 + n4 + n5)) 0 (bl []) := o4'
  have s4 : w3.Since w3.heap.size w4 := (World.Since.refl _ _).grown hg4 (Nat.le_refl _) (fun k hk => by cases hk)
  clear hg4 o4'
  go_wp2_with (at_builtin; refine wpList_append_fits _ rfl (.tmp 86) (.tmp 87) 22 rfl w3.heap.size 5 inf 1 Try.underlying22 hi hz1 w3.heap.size (0) (out.length + 8 + n4 + n5) (bl ([])) rfl (o4.alloc _) ⟨w4.heap.size, 0, none⟩ 1 1 (bl [34]) rfl rfl (news_new w4 (bl [34]) 5) (bl_one _) (by omega) ?_)
  intro w5 o5' hg
  have o5 : w5.ownsRow w3.heap.size 5 1 (.slice (some ⟨w3.heap.size, 0, none⟩) (0 + 1) (out.length + 8 + n4 + n5)) (0 + 1) (bl ([] ++ [34])) := by rw [bl_app]; exact o5'
  have s5 : w3.Since w3.heap.size w5 := (s4.alloc s4.size _).grown hg (by have := s4.size; simp; omega) (fun k hk => by cases hk; exact Nat.le_refl _)
  clear o5' hg o4 s4
  have hcE := IsInts.cellsL (iE.since s5 (Nat.le_refl _))
  rw [range_by] at hcE
  go_wp2_with (at_builtin; refine wpList_append_fits_any _ rfl (.tmp 89) (.tmp 90) 22 rfl w3.heap.size 5 inf 1 Try.underlying22 hi hz1 w3.heap.size (0 + 1) (out.length + 8 + n4 + n5) (bl ([] ++ [34])) rfl o5 ae out.length ce (bl out) rfl (by rw [bl_len]; simp) zE hcE (bl_one _) (by omega) ?_)
  intro w6 o6' hg
  have o6 : w6.ownsRow w3.heap.size 5 1 (.slice (some ⟨w3.heap.size, 0, none⟩) (0 + 1 + out.length) (out.length + 8 + n4 + n5)) (0 + 1 + out.length) (bl ([] ++ [34] ++ out)) := by rw [bl_app]; exact o6'
  have s6 : w3.Since w3.heap.size w6 := s5.grown hg s5.size (fun k hk => by cases hk; exact Nat.le_refl _)
  clear o6' hg o5 s5
  obtain ⟨hlen, kI⟩ := owned_isInts o6
  have hq : Hid (quo (by_ ([] ++ [34] ++ out)) (0 + 1 + out.length) 0 = none) := by
    show quo (by_ ([] ++ [34] ++ out)) (0 + 1 + out.length) 0 = none
    rw [hlen, show ([] ++ [34] ++ out) = 34 :: (out ++ []) from by simp]
    exact broken0 HP.out
  clear hlen o6
  go_wp2_with fail
  refine (new_zero w6 (some ⟨w3.heap.size, 0, none⟩) (0 + 1 + out.length) (out.length + 8 + n4 + n5)).mono ?_
  rintro e wn ⟨rfl, rfl⟩
  go_wp2_with fail
  refine (quoted_new w6 (some ⟨w3.heap.size, 0, none⟩) (0 + 1 + out.length) (out.length + 8 + n4 + n5) 0 _ (by omega) (by omega) (Nat.zero_le _) kI).mono ?_
  rw [hq.out]
  rintro e wq ⟨rfl, sq, _⟩
  have sfin := Since.step (Since.step ss3 s6) sq
  go_wp2
  go_ret
  exact ⟨rfl, sfin⟩
set_option maxHeartbeats 3200000 in
set_option maxRecDepth 100000 in
theorem brk1 (kd b q0 q1 q2 q3 : Int) (a1 a4 a5 : Option Addr) (n1 n4 n5 c1 c4 c5 : Nat) (f1 f4 f5 : Nat → Int) (w : World) (I : BrkIn w a1 a4 a5 n1 n4 n5 c1 c4 c5 f1 f4 f5) (k0 : 0 ≤ kd) (k255 : kd ≤ 255) (hk : kd % 6 = 1) (b0 : 0 ≤ b) (b255 : b ≤ 255) :
    Calls Try.prog 4 #[.slice a1 n1 c1, .int .u8 kd, .int .u8 b, .agg #[.int .u8 q0, .int .u8 q1, .int .u8 q2, .int .u8 q3], .slice a4 n4 c4, .slice a5 n5 c5] w fun e w' => e = .returned (.bool true) ∧ w.Since w.heap.size w' := by
  obtain ⟨inf, hi, hz0, hz1, hz2⟩ := info_parts Try.info5
  have I' : Hid (BrkIn w a1 a4 a5 n1 n4 n5 c1 c4 c5 f1 f4 f5) := I
  clear I
  go_enter Try.func4, Try.ntmps4
  go_wp2_with fail
  refine (zzBroken _ _ _ _ _ _ _ _ _ _ _ _ _ _ _ _ I'.out.m1 I'.out.m4 I'.out.m5).mono ?_
  rintro e w1 ⟨⟨r, rfl⟩, s1'⟩
  have s0 : w.Since w.heap.size (w.alloc (Obj.cells #[Value.int IntKind.u8 q0, Value.int IntKind.u8 q1, Value.int IntKind.u8 q2, Value.int IntKind.u8 q3] 31)) := (World.Since.refl _ _).alloc (Nat.le_refl _) _
  have s1 := Since.step s0 s1'
  cases r
  · go_wp2
    go_ret
    exact ⟨rfl, s1⟩
  by_cases t1 : (65536 : Int) < n1
  · go_wp2
    go_ret
    exact ⟨rfl, s1⟩
  by_cases t2 : (65536 : Int) < n4
  · go_wp2
    go_ret
    exact ⟨rfl, s1⟩
  by_cases t3 : (65536 : Int) < n5
  · go_wp2
    go_ret
    exact ⟨rfl, s1⟩
  have l1 : n1 ≤ 65536 := by omega
  have l4 : n4 ≤ 65536 := by omega
  have l5 : n5 ≤ 65536 := by omega
  clear t1 t2 t3
  go_wp2_with fail
  refine (encode_any w1 a1 n1 c1 f1 l1 (I'.out.h1.since s1 (Nat.le_refl _)) I'.out.by1).mono ?_
  rintro e w3 ⟨ae, ce, out, rfl, hP, hol, hE, s3⟩
  have ss3 := Since.step s1 s3
  have HP : Hid (Passes out) := hP
  have iE := (owned_isInts hE).2
  have zE : ae = none → out.length = 0 ∧ ce = 0 := by
    intro h
    rcases hE.2 with ⟨hv, h0⟩ | ⟨g, cap, cur, hv, _⟩
    · simp only [Value.slice.injEq] at hv; exact ⟨h0, hv.2.2⟩
    · simp only [Value.slice.injEq] at hv; rw [h] at hv; cases hv.1
  have i4 := I'.out.h4.since ss3 (Nat.le_refl _)
  have i5 := I'.out.h5.since ss3 (Nat.le_refl _)
  have z4 := I'.out.z4
  have z5 := I'.out.z5
  clear s1 s0 s1' s3 hP hE
  go_wp2_with (at_make; refine wpList_make_own _ rfl _ _ 22 rfl w3.heap.size 5 inf (.int .u8 0) 1 Try.underlying22 hi hz0 hz1 _ _ _ (out.length + 8 + n4 + n5) rfl rfl (by omega) ?b1 ?b2 ?b3 ?_)
  case b1 => rw [hz2]; omega
  case b2 => unfold maxLen; omega
  case b3 => exact Nat.le_refl _
  intro w4 o4' hg4
  have o4 : w4.ownsRow w3.heap.size 5 1 (.slice (some ⟨w3.heap.size, 0, none⟩) 0 (out.length + 8 + n4 + n5)) 0 (bl []) := o4'
  have s4 : w3.Since w3.heap.size w4 := (World.Since.refl _ _).grown hg4 (Nat.le_refl _) (fun k hk => by cases hk)
  clear hg4 o4'
  go_wp2_with (at_builtin; refine wpList_append_fits _ rfl (.tmp 86) (.tmp 87) 22 rfl w3.heap.size 5 inf 1 Try.underlying22 hi hz1 w3.heap.size (0) (out.length + 8 + n4 + n5) (bl ([])) rfl (o4.alloc _) ⟨w4.heap.size, 0, none⟩ 1 1 (bl [34]) rfl rfl (news_new w4 (bl [34]) 5) (bl_one _) (by omega) ?_)
  intro w5 o5' hg
  have o5 : w5.ownsRow w3.heap.size 5 1 (.slice (some ⟨w3.heap.size, 0, none⟩) (0 + 1) (out.length + 8 + n4 + n5)) (0 + 1) (bl ([] ++ [34])) := by rw [bl_app]; exact o5'
  have s5 : w3.Since w3.heap.size w5 := (s4.alloc s4.size _).grown hg (by have := s4.size; simp; omega) (fun k hk => by cases hk; exact Nat.le_refl _)
  clear o5' hg o4 s4
  have hcE := IsInts.cellsL (iE.since s5 (Nat.le_refl _))
  rw [range_by] at hcE
  go_wp2_with (at_builtin; refine wpList_append_fits_any _ rfl (.tmp 89) (.tmp 90) 22 rfl w3.heap.size 5 inf 1 Try.underlying22 hi hz1 w3.heap.size (0 + 1) (out.length + 8 + n4 + n5) (bl ([] ++ [34])) rfl o5 ae out.length ce (bl out) rfl (by rw [bl_len]; simp) zE hcE (bl_one _) (by omega) ?_)
  intro w6 o6' hg
  have o6 : w6.ownsRow w3.heap.size 5 1 (.slice (some ⟨w3.heap.size, 0, none⟩) (0 + 1 + out.length) (out.length + 8 + n4 + n5)) (0 + 1 + out.length) (bl ([] ++ [34] ++ out)) := by rw [bl_app]; exact o6'
  have s6 : w3.Since w3.heap.size w6 := s5.grown hg s5.size (fun k hk => by cases hk; exact Nat.le_refl _)
  clear o6' hg o5 s5
  go_wp2_with (at_builtin; refine wpList_append_fits _ rfl (.tmp 103) (.tmp 106) 22 rfl w3.heap.size 5 inf 1 Try.underlying22 hi hz1 w3.heap.size (0 + 1 + out.length) (out.length + 8 + n4 + n5) (bl ([] ++ [34] ++ out)) rfl (o6.alloc _) ⟨w6.heap.size, 0, none⟩ 1 1 (bl [b % 32]) rfl rfl (news_new w6 (bl [b % 32]) 5) (bl_one _) (by omega) ?_)
  intro w7 o7' hg
  have o7 : w7.ownsRow w3.heap.size 5 1 (.slice (some ⟨w3.heap.size, 0, none⟩) (0 + 1 + out.length + 1) (out.length + 8 + n4 + n5)) (0 + 1 + out.length + 1) (bl ([] ++ [34] ++ out ++ [b % 32])) := by rw [bl_app]; exact o7'
  have s7 : w3.Since w3.heap.size w7 := (s6.alloc s6.size _).grown hg (by have := s6.size; simp; omega) (fun k hk => by cases hk; exact Nat.le_refl _)
  clear o7' hg o6 s6
  have hc5 := IsInts.cellsL (i5.since s7 (Nat.le_refl _))
  go_wp2_with (at_builtin; refine wpList_append_fits_any _ rfl (.tmp 108) (.tmp 109) 22 rfl w3.heap.size 5 inf 1 Try.underlying22 hi hz1 w3.heap.size (0 + 1 + out.length + 1) (out.length + 8 + n4 + n5) (bl ([] ++ [34] ++ out ++ [b % 32])) rfl o7 a5 n5 c5 (bl ((List.range n5).map f5)) rfl (by rw [bl_len]; simp) z5 hc5 (bl_one _) (by omega) ?_)
  intro w8 o8' hg
  have o8 : w8.ownsRow w3.heap.size 5 1 (.slice (some ⟨w3.heap.size, 0, none⟩) (0 + 1 + out.length + 1 + n5) (out.length + 8 + n4 + n5)) (0 + 1 + out.length + 1 + n5) (bl ([] ++ [34] ++ out ++ [b % 32] ++ ((List.range n5).map f5))) := by rw [bl_app]; exact o8'
  have s8 : w3.Since w3.heap.size w8 := s7.grown hg s7.size (fun k hk => by cases hk; exact Nat.le_refl _)
  clear o8' hg o7 s7
  obtain ⟨hlen, kI⟩ := owned_isInts o8
  have hq : Hid (quo (by_ ([] ++ [34] ++ out ++ [b % 32] ++ ((List.range n5).map f5))) (0 + 1 + out.length + 1 + n5) 0 = none) := by
    show quo (by_ ([] ++ [34] ++ out ++ [b % 32] ++ ((List.range n5).map f5))) (0 + 1 + out.length + 1 + n5) 0 = none
    rw [hlen, show ([] ++ [34] ++ out ++ [b % 32] ++ ((List.range n5).map f5)) = 34 :: (out ++ b % 32 :: ((List.range n5).map f5)) from by simp]
    exact broken1 HP.out (by omega)
  clear hlen o8
  go_wp2_with fail
  refine (new_zero w8 (some ⟨w3.heap.size, 0, none⟩) (0 + 1 + out.length + 1 + n5) (out.length + 8 + n4 + n5)).mono ?_
  rintro e wn ⟨rfl, rfl⟩
  go_wp2_with fail
  refine (quoted_new w8 (some ⟨w3.heap.size, 0, none⟩) (0 + 1 + out.length + 1 + n5) (out.length + 8 + n4 + n5) 0 _ (by omega) (by omega) (Nat.zero_le _) kI).mono ?_
  rw [hq.out]
  rintro e wq ⟨rfl, sq, _⟩
  have sfin := Since.step (Since.step ss3 s8) sq
  go_wp2
  go_ret
  exact ⟨rfl, sfin⟩
set_option maxHeartbeats 3200000 in
set_option maxRecDepth 100000 in
theorem brk2 (kd b q0 q1 q2 q3 : Int) (a1 a4 a5 : Option Addr) (n1 n4 n5 c1 c4 c5 : Nat) (f1 f4 f5 : Nat → Int) (w : World) (I : BrkIn w a1 a4 a5 n1 n4 n5 c1 c4 c5 f1 f4 f5) (k0 : 0 ≤ kd) (k255 : kd ≤ 255) (hk : kd % 6 = 2) :
    Calls Try.prog 4 #[.slice a1 n1 c1, .int .u8 kd, .int .u8 b, .agg #[.int .u8 q0, .int .u8 q1, .int .u8 q2, .int .u8 q3], .slice a4 n4 c4, .slice a5 n5 c5] w fun e w' => e = .returned (.bool true) ∧ w.Since w.heap.size w' := by
  obtain ⟨inf, hi, hz0, hz1, hz2⟩ := info_parts Try.info5
  have I' : Hid (BrkIn w a1 a4 a5 n1 n4 n5 c1 c4 c5 f1 f4 f5) := I
  clear I
  go_enter Try.func4, Try.ntmps4
  go_wp2_with fail
  refine (zzBroken _ _ _ _ _ _ _ _ _ _ _ _ _ _ _ _ I'.out.m1 I'.out.m4 I'.out.m5).mono ?_
  rintro e w1 ⟨⟨r, rfl⟩, s1'⟩
  have s0 : w.Since w.heap.size (w.alloc (Obj.cells #[Value.int IntKind.u8 q0, Value.int IntKind.u8 q1, Value.int IntKind.u8 q2, Value.int IntKind.u8 q3] 31)) := (World.Since.refl _ _).alloc (Nat.le_refl _) _
  have s1 := Since.step s0 s1'
  cases r
  · go_wp2
    go_ret
    exact ⟨rfl, s1⟩
  by_cases t1 : (65536 : Int) < n1
  · go_wp2
    go_ret
    exact ⟨rfl, s1⟩
  by_cases t2 : (65536 : Int) < n4
  · go_wp2
    go_ret
    exact ⟨rfl, s1⟩
  by_cases t3 : (65536 : Int) < n5
  · go_wp2
    go_ret
    exact ⟨rfl, s1⟩
  have l1 : n1 ≤ 65536 := by omega
  have l4 : n4 ≤ 65536 := by omega
  have l5 : n5 ≤ 65536 := by omega
  clear t1 t2 t3
  go_wp2_with fail
  refine (esc_any _ _).mono ?_
  rintro e w2 ⟨⟨r, rfl, hr⟩, rfl⟩
  cases r
  case true =>
    go_wp2
    go_ret
    exact ⟨rfl, s1⟩
  have HE : Hid (escB b = false ∧ ¬ b = 117) := hr rfl
  clear hr
  go_wp2_with fail
  refine (encode_any w1 a1 n1 c1 f1 l1 (I'.out.h1.since s1 (Nat.le_refl _)) I'.out.by1).mono ?_
  rintro e w3 ⟨ae, ce, out, rfl, hP, hol, hE, s3⟩
  have ss3 := Since.step s1 s3
  have HP : Hid (Passes out) := hP
  have iE := (owned_isInts hE).2
  have zE : ae = none → out.length = 0 ∧ ce = 0 := by
    intro h
    rcases hE.2 with ⟨hv, h0⟩ | ⟨g, cap, cur, hv, _⟩
    · simp only [Value.slice.injEq] at hv; exact ⟨h0, hv.2.2⟩
    · simp only [Value.slice.injEq] at hv; rw [h] at hv; cases hv.1
  have i4 := I'.out.h4.since ss3 (Nat.le_refl _)
  have i5 := I'.out.h5.since ss3 (Nat.le_refl _)
  have z4 := I'.out.z4
  have z5 := I'.out.z5
  clear s1 s0 s1' s3 hP hE
  go_wp2_with (at_make; refine wpList_make_own _ rfl _ _ 22 rfl w3.heap.size 5 inf (.int .u8 0) 1 Try.underlying22 hi hz0 hz1 _ _ _ (out.length + 8 + n4 + n5) rfl rfl (by omega) ?b1 ?b2 ?b3 ?_)
  case b1 => rw [hz2]; omega
  case b2 => unfold maxLen; omega
  case b3 => exact Nat.le_refl _
  intro w4 o4' hg4
  have o4 : w4.ownsRow w3.heap.size 5 1 (.slice (some ⟨w3.heap.size, 0, none⟩) 0 (out.length + 8 + n4 + n5)) 0 (bl []) := o4'
  have s4 : w3.Since w3.heap.size w4 := (World.Since.refl _ _).grown hg4 (Nat.le_refl _) (fun k hk => by cases hk)
  clear hg4 o4'
  go_wp2_with (at_builtin; refine wpList_append_fits _ rfl (.tmp 86) (.tmp 87) 22 rfl w3.heap.size 5 inf 1 Try.underlying22 hi hz1 w3.heap.size (0) (out.length + 8 + n4 + n5) (bl ([])) rfl (o4.alloc _) ⟨w4.heap.size, 0, none⟩ 1 1 (bl [34]) rfl rfl (news_new w4 (bl [34]) 5) (bl_one _) (by omega) ?_)
  intro w5 o5' hg
  have o5 : w5.ownsRow w3.heap.size 5 1 (.slice (some ⟨w3.heap.size, 0, none⟩) (0 + 1) (out.length + 8 + n4 + n5)) (0 + 1) (bl ([] ++ [34])) := by rw [bl_app]; exact o5'
  have s5 : w3.Since w3.heap.size w5 := (s4.alloc s4.size _).grown hg (by have := s4.size; simp; omega) (fun k hk => by cases hk; exact Nat.le_refl _)
  clear o5' hg o4 s4
  have hcE := IsInts.cellsL (iE.since s5 (Nat.le_refl _))
  rw [range_by] at hcE
  go_wp2_with (at_builtin; refine wpList_append_fits_any _ rfl (.tmp 89) (.tmp 90) 22 rfl w3.heap.size 5 inf 1 Try.underlying22 hi hz1 w3.heap.size (0 + 1) (out.length + 8 + n4 + n5) (bl ([] ++ [34])) rfl o5 ae out.length ce (bl out) rfl (by rw [bl_len]; simp) zE hcE (bl_one _) (by omega) ?_)
  intro w6 o6' hg
  have o6 : w6.ownsRow w3.heap.size 5 1 (.slice (some ⟨w3.heap.size, 0, none⟩) (0 + 1 + out.length) (out.length + 8 + n4 + n5)) (0 + 1 + out.length) (bl ([] ++ [34] ++ out)) := by rw [bl_app]; exact o6'
  have s6 : w3.Since w3.heap.size w6 := s5.grown hg s5.size (fun k hk => by cases hk; exact Nat.le_refl _)
  clear o6' hg o5 s5
  go_wp2_with (at_builtin; refine wpList_append_fits _ rfl (.tmp 113) (.tmp 115) 22 rfl w3.heap.size 5 inf 1 Try.underlying22 hi hz1 w3.heap.size (0 + 1 + out.length) (out.length + 8 + n4 + n5) (bl ([] ++ [34] ++ out)) rfl (o6.alloc _) ⟨w6.heap.size, 0, none⟩ 2 2 (bl [92, b]) rfl rfl (news_new w6 (bl [92, b]) 5) (bl_one _) (by omega) ?_)
  intro w7 o7' hg
  have o7 : w7.ownsRow w3.heap.size 5 1 (.slice (some ⟨w3.heap.size, 0, none⟩) (0 + 1 + out.length + 2) (out.length + 8 + n4 + n5)) (0 + 1 + out.length + 2) (bl ([] ++ [34] ++ out ++ [92, b])) := by rw [bl_app]; exact o7'
  have s7 : w3.Since w3.heap.size w7 := (s6.alloc s6.size _).grown hg (by have := s6.size; simp; omega) (fun k hk => by cases hk; exact Nat.le_refl _)
  clear o7' hg o6 s6
  have hc5 := IsInts.cellsL (i5.since s7 (Nat.le_refl _))
  go_wp2_with (at_builtin; refine wpList_append_fits_any _ rfl (.tmp 117) (.tmp 118) 22 rfl w3.heap.size 5 inf 1 Try.underlying22 hi hz1 w3.heap.size (0 + 1 + out.length + 2) (out.length + 8 + n4 + n5) (bl ([] ++ [34] ++ out ++ [92, b])) rfl o7 a5 n5 c5 (bl ((List.range n5).map f5)) rfl (by rw [bl_len]; simp) z5 hc5 (bl_one _) (by omega) ?_)
  intro w8 o8' hg
  have o8 : w8.ownsRow w3.heap.size 5 1 (.slice (some ⟨w3.heap.size, 0, none⟩) (0 + 1 + out.length + 2 + n5) (out.length + 8 + n4 + n5)) (0 + 1 + out.length + 2 + n5) (bl ([] ++ [34] ++ out ++ [92, b] ++ ((List.range n5).map f5))) := by rw [bl_app]; exact o8'
  have s8 : w3.Since w3.heap.size w8 := s7.grown hg s7.size (fun k hk => by cases hk; exact Nat.le_refl _)
  clear o8' hg o7 s7
  obtain ⟨hlen, kI⟩ := owned_isInts o8
  have hq : Hid (quo (by_ ([] ++ [34] ++ out ++ [92, b] ++ ((List.range n5).map f5))) (0 + 1 + out.length + 2 + n5) 0 = none) := by
    show quo (by_ ([] ++ [34] ++ out ++ [92, b] ++ ((List.range n5).map f5))) (0 + 1 + out.length + 2 + n5) 0 = none
    rw [hlen, show ([] ++ [34] ++ out ++ [92, b] ++ ((List.range n5).map f5)) = 34 :: (out ++ 92 :: b :: ((List.range n5).map f5)) from by simp]
    exact broken2 HP.out HE.out.1 HE.out.2
  clear hlen o8
  go_wp2_with fail
  refine (new_zero w8 (some ⟨w3.heap.size, 0, none⟩) (0 + 1 + out.length + 2 + n5) (out.length + 8 + n4 + n5)).mono ?_
  rintro e wn ⟨rfl, rfl⟩
  go_wp2_with fail
  refine (quoted_new w8 (some ⟨w3.heap.size, 0, none⟩) (0 + 1 + out.length + 2 + n5) (out.length + 8 + n4 + n5) 0 _ (by omega) (by omega) (Nat.zero_le _) kI).mono ?_
  rw [hq.out]
  rintro e wq ⟨rfl, sq, _⟩
  have sfin := Since.step (Since.step ss3 s8) sq
  go_wp2
  go_ret
  exact ⟨rfl, sfin⟩
set_option maxHeartbeats 3200000 in
set_option maxRecDepth 100000 in
theorem brk3 (kd b q0 q1 q2 q3 : Int) (a1 a4 a5 : Option Addr) (n1 n4 n5 c1 c4 c5 : Nat) (f1 f4 f5 : Nat → Int) (w : World) (I : BrkIn w a1 a4 a5 n1 n4 n5 c1 c4 c5 f1 f4 f5) (k0 : 0 ≤ kd) (k255 : kd ≤ 255) (hk : kd % 6 = 3) :
    Calls Try.prog 4 #[.slice a1 n1 c1, .int .u8 kd, .int .u8 b, .agg #[.int .u8 q0, .int .u8 q1, .int .u8 q2, .int .u8 q3], .slice a4 n4 c4, .slice a5 n5 c5] w fun e w' => e = .returned (.bool true) ∧ w.Since w.heap.size w' := by
  obtain ⟨inf, hi, hz0, hz1, hz2⟩ := info_parts Try.info5
  have I' : Hid (BrkIn w a1 a4 a5 n1 n4 n5 c1 c4 c5 f1 f4 f5) := I
  clear I
  go_enter Try.func4, Try.ntmps4
  go_wp2_with fail
  refine (zzBroken _ _ _ _ _ _ _ _ _ _ _ _ _ _ _ _ I'.out.m1 I'.out.m4 I'.out.m5).mono ?_
  rintro e w1 ⟨⟨r, rfl⟩, s1'⟩
  have s0 : w.Since w.heap.size (w.alloc (Obj.cells #[Value.int IntKind.u8 q0, Value.int IntKind.u8 q1, Value.int IntKind.u8 q2, Value.int IntKind.u8 q3] 31)) := (World.Since.refl _ _).alloc (Nat.le_refl _) _
  have s1 := Since.step s0 s1'
  cases r
  · go_wp2
    go_ret
    exact ⟨rfl, s1⟩
  by_cases t1 : (65536 : Int) < n1
  · go_wp2
    go_ret
    exact ⟨rfl, s1⟩
  by_cases t2 : (65536 : Int) < n4
  · go_wp2
    go_ret
    exact ⟨rfl, s1⟩
  by_cases t3 : (65536 : Int) < n5
  · go_wp2
    go_ret
    exact ⟨rfl, s1⟩
  have l1 : n1 ≤ 65536 := by omega
  have l4 : n4 ≤ 65536 := by omega
  have l5 : n5 ≤ 65536 := by omega
  clear t1 t2 t3
  go_wp2_with fail
  refine (encode_any w1 a1 n1 c1 f1 l1 (I'.out.h1.since s1 (Nat.le_refl _)) I'.out.by1).mono ?_
  rintro e w3 ⟨ae, ce, out, rfl, hP, hol, hE, s3⟩
  have ss3 := Since.step s1 s3
  have HP : Hid (Passes out) := hP
  have iE := (owned_isInts hE).2
  have zE : ae = none → out.length = 0 ∧ ce = 0 := by
    intro h
    rcases hE.2 with ⟨hv, h0⟩ | ⟨g, cap, cur, hv, _⟩
    · simp only [Value.slice.injEq] at hv; exact ⟨h0, hv.2.2⟩
    · simp only [Value.slice.injEq] at hv; rw [h] at hv; cases hv.1
  have i4 := I'.out.h4.since ss3 (Nat.le_refl _)
  have i5 := I'.out.h5.since ss3 (Nat.le_refl _)
  have z4 := I'.out.z4
  have z5 := I'.out.z5
  clear s1 s0 s1' s3 hP hE
  go_wp2_with (at_make; refine wpList_make_own _ rfl _ _ 22 rfl w3.heap.size 5 inf (.int .u8 0) 1 Try.underlying22 hi hz0 hz1 _ _ _ (out.length + 8 + n4 + n5) rfl rfl (by omega) ?b1 ?b2 ?b3 ?_)
  case b1 => rw [hz2]; omega
  case b2 => unfold maxLen; omega
  case b3 => exact Nat.le_refl _
  intro w4 o4' hg4
  have o4 : w4.ownsRow w3.heap.size 5 1 (.slice (some ⟨w3.heap.size, 0, none⟩) 0 (out.length + 8 + n4 + n5)) 0 (bl []) := o4'
  have s4 : w3.Since w3.heap.size w4 := (World.Since.refl _ _).grown hg4 (Nat.le_refl _) (fun k hk => by cases hk)
  clear hg4 o4'
  go_wp2_with (at_builtin; refine wpList_append_fits _ rfl (.tmp 86) (.tmp 87) 22 rfl w3.heap.size 5 inf 1 Try.underlying22 hi hz1 w3.heap.size (0) (out.length + 8 + n4 + n5) (bl ([])) rfl (o4.alloc _) ⟨w4.heap.size, 0, none⟩ 1 1 (bl [34]) rfl rfl (news_new w4 (bl [34]) 5) (bl_one _) (by omega) ?_)
  intro w5 o5' hg
  have o5 : w5.ownsRow w3.heap.size 5 1 (.slice (some ⟨w3.heap.size, 0, none⟩) (0 + 1) (out.length + 8 + n4 + n5)) (0 + 1) (bl ([] ++ [34])) := by rw [bl_app]; exact o5'
  have s5 : w3.Since w3.heap.size w5 := (s4.alloc s4.size _).grown hg (by have := s4.size; simp; omega) (fun k hk => by cases hk; exact Nat.le_refl _)
  clear o5' hg o4 s4
  have hcE := IsInts.cellsL (iE.since s5 (Nat.le_refl _))
  rw [range_by] at hcE
  go_wp2_with (at_builtin; refine wpList_append_fits_any _ rfl (.tmp 89) (.tmp 90) 22 rfl w3.heap.size 5 inf 1 Try.underlying22 hi hz1 w3.heap.size (0 + 1) (out.length + 8 + n4 + n5) (bl ([] ++ [34])) rfl o5 ae out.length ce (bl out) rfl (by rw [bl_len]; simp) zE hcE (bl_one _) (by omega) ?_)
  intro w6 o6' hg
  have o6 : w6.ownsRow w3.heap.size 5 1 (.slice (some ⟨w3.heap.size, 0, none⟩) (0 + 1 + out.length) (out.length + 8 + n4 + n5)) (0 + 1 + out.length) (bl ([] ++ [34] ++ out)) := by rw [bl_app]; exact o6'
  have s6 : w3.Since w3.heap.size w6 := s5.grown hg s5.size (fun k hk => by cases hk; exact Nat.le_refl _)
  clear o6' hg o5 s5
  go_wp2_with (at_builtin; refine wpList_append_fits _ rfl (.tmp 122) (.tmp 123) 22 rfl w3.heap.size 5 inf 1 Try.underlying22 hi hz1 w3.heap.size (0 + 1 + out.length) (out.length + 8 + n4 + n5) (bl ([] ++ [34] ++ out)) rfl (o6.alloc _) ⟨w6.heap.size, 0, none⟩ 1 1 (bl [92]) rfl rfl (news_new w6 (bl [92]) 5) (bl_one _) (by omega) ?_)
  intro w7 o7' hg
  have o7 : w7.ownsRow w3.heap.size 5 1 (.slice (some ⟨w3.heap.size, 0, none⟩) (0 + 1 + out.length + 1) (out.length + 8 + n4 + n5)) (0 + 1 + out.length + 1) (bl ([] ++ [34] ++ out ++ [92])) := by rw [bl_app]; exact o7'
  have s7 : w3.Since w3.heap.size w7 := (s6.alloc s6.size _).grown hg (by have := s6.size; simp; omega) (fun k hk => by cases hk; exact Nat.le_refl _)
  clear o7' hg o6 s6
  obtain ⟨hlen, kI⟩ := owned_isInts o7
  have hq : Hid (quo (by_ ([] ++ [34] ++ out ++ [92])) (0 + 1 + out.length + 1) 0 = none) := by
    show quo (by_ ([] ++ [34] ++ out ++ [92])) (0 + 1 + out.length + 1) 0 = none
    rw [hlen, show ([] ++ [34] ++ out ++ [92]) = 34 :: (out ++ [92]) from by simp]
    exact broken3 HP.out
  clear hlen o7
  go_wp2_with fail
  refine (new_zero w7 (some ⟨w3.heap.size, 0, none⟩) (0 + 1 + out.length + 1) (out.length + 8 + n4 + n5)).mono ?_
  rintro e wn ⟨rfl, rfl⟩
  go_wp2_with fail
  refine (quoted_new w7 (some ⟨w3.heap.size, 0, none⟩) (0 + 1 + out.length + 1) (out.length + 8 + n4 + n5) 0 _ (by omega) (by omega) (Nat.zero_le _) kI).mono ?_
  rw [hq.out]
  rintro e wq ⟨rfl, sq, _⟩
  have sfin := Since.step (Since.step ss3 s7) sq
  go_wp2
  go_ret
  exact ⟨rfl, sfin⟩
set_option maxHeartbeats 3200000 in
set_option maxRecDepth 100000 in
theorem brk5 (kd b q0 q1 q2 q3 : Int) (a1 a4 a5 : Option Addr) (n1 n4 n5 c1 c4 c5 : Nat) (f1 f4 f5 : Nat → Int) (w : World) (I : BrkIn w a1 a4 a5 n1 n4 n5 c1 c4 c5 f1 f4 f5) (k0 : 0 ≤ kd) (k255 : kd ≤ 255) (hk : kd % 6 = 5) :
    Calls Try.prog 4 #[.slice a1 n1 c1, .int .u8 kd, .int .u8 b, .agg #[.int .u8 q0, .int .u8 q1, .int .u8 q2, .int .u8 q3], .slice a4 n4 c4, .slice a5 n5 c5] w fun e w' => e = .returned (.bool true) ∧ w.Since w.heap.size w' := by
  obtain ⟨inf, hi, hz0, hz1, hz2⟩ := info_parts Try.info5
  have I' : Hid (BrkIn w a1 a4 a5 n1 n4 n5 c1 c4 c5 f1 f4 f5) := I
  clear I
  go_enter Try.func4, Try.ntmps4
  go_wp2_with fail
  refine (zzBroken _ _ _ _ _ _ _ _ _ _ _ _ _ _ _ _ I'.out.m1 I'.out.m4 I'.out.m5).mono ?_
  rintro e w1 ⟨⟨r, rfl⟩, s1'⟩
  have s0 : w.Since w.heap.size (w.alloc (Obj.cells #[Value.int IntKind.u8 q0, Value.int IntKind.u8 q1, Value.int IntKind.u8 q2, Value.int IntKind.u8 q3] 31)) := (World.Since.refl _ _).alloc (Nat.le_refl _) _
  have s1 := Since.step s0 s1'
  cases r
  · go_wp2
    go_ret
    exact ⟨rfl, s1⟩
  by_cases t1 : (65536 : Int) < n1
  · go_wp2
    go_ret
    exact ⟨rfl, s1⟩
  by_cases t2 : (65536 : Int) < n4
  · go_wp2
    go_ret
    exact ⟨rfl, s1⟩
  by_cases t3 : (65536 : Int) < n5
  · go_wp2
    go_ret
    exact ⟨rfl, s1⟩
  have l1 : n1 ≤ 65536 := by omega
  have l4 : n4 ≤ 65536 := by omega
  have l5 : n5 ≤ 65536 := by omega
  clear t1 t2 t3
  by_cases t5 : (3 : Int) < n4
  · go_wp2
    go_ret
    exact ⟨rfl, s1⟩
  have l4' : n4 ≤ 3 := by omega
  go_wp2_with fail
  refine (encode_any w1 a1 n1 c1 f1 l1 (I'.out.h1.since s1 (Nat.le_refl _)) I'.out.by1).mono ?_
  rintro e w3 ⟨ae, ce, out, rfl, hP, hol, hE, s3⟩
  have ss3 := Since.step s1 s3
  have HP : Hid (Passes out) := hP
  have iE := (owned_isInts hE).2
  have zE : ae = none → out.length = 0 ∧ ce = 0 := by
    intro h
    rcases hE.2 with ⟨hv, h0⟩ | ⟨g, cap, cur, hv, _⟩
    · simp only [Value.slice.injEq] at hv; exact ⟨h0, hv.2.2⟩
    · simp only [Value.slice.injEq] at hv; rw [h] at hv; cases hv.1
  have i4 := I'.out.h4.since ss3 (Nat.le_refl _)
  have i5 := I'.out.h5.since ss3 (Nat.le_refl _)
  have z4 := I'.out.z4
  have z5 := I'.out.z5
  clear s1 s0 s1' s3 hP hE
  go_wp2_with (at_make; refine wpList_make_own _ rfl _ _ 22 rfl w3.heap.size 5 inf (.int .u8 0) 1 Try.underlying22 hi hz0 hz1 _ _ _ (out.length + 8 + n4 + n5) rfl rfl (by omega) ?b1 ?b2 ?b3 ?_)
  case b1 => rw [hz2]; omega
  case b2 => unfold maxLen; omega
  case b3 => exact Nat.le_refl _
  intro w4 o4' hg4
  have o4 : w4.ownsRow w3.heap.size 5 1 (.slice (some ⟨w3.heap.size, 0, none⟩) 0 (out.length + 8 + n4 + n5)) 0 (bl []) := o4'
  have s4 : w3.Since w3.heap.size w4 := (World.Since.refl _ _).grown hg4 (Nat.le_refl _) (fun k hk => by cases hk)
  clear hg4 o4'
  go_wp2_with (at_builtin; refine wpList_append_fits _ rfl (.tmp 86) (.tmp 87) 22 rfl w3.heap.size 5 inf 1 Try.underlying22 hi hz1 w3.heap.size (0) (out.length + 8 + n4 + n5) (bl ([])) rfl (o4.alloc _) ⟨w4.heap.size, 0, none⟩ 1 1 (bl [34]) rfl rfl (news_new w4 (bl [34]) 5) (bl_one _) (by omega) ?_)
  intro w5 o5' hg
  have o5 : w5.ownsRow w3.heap.size 5 1 (.slice (some ⟨w3.heap.size, 0, none⟩) (0 + 1) (out.length + 8 + n4 + n5)) (0 + 1) (bl ([] ++ [34])) := by rw [bl_app]; exact o5'
  have s5 : w3.Since w3.heap.size w5 := (s4.alloc s4.size _).grown hg (by have := s4.size; simp; omega) (fun k hk => by cases hk; exact Nat.le_refl _)
  clear o5' hg o4 s4
  have hcE := IsInts.cellsL (iE.since s5 (Nat.le_refl _))
  rw [range_by] at hcE
  go_wp2_with (at_builtin; refine wpList_append_fits_any _ rfl (.tmp 89) (.tmp 90) 22 rfl w3.heap.size 5 inf 1 Try.underlying22 hi hz1 w3.heap.size (0 + 1) (out.length + 8 + n4 + n5) (bl ([] ++ [34])) rfl o5 ae out.length ce (bl out) rfl (by rw [bl_len]; simp) zE hcE (bl_one _) (by omega) ?_)
  intro w6 o6' hg
  have o6 : w6.ownsRow w3.heap.size 5 1 (.slice (some ⟨w3.heap.size, 0, none⟩) (0 + 1 + out.length) (out.length + 8 + n4 + n5)) (0 + 1 + out.length) (bl ([] ++ [34] ++ out)) := by rw [bl_app]; exact o6'
  have s6 : w3.Since w3.heap.size w6 := s5.grown hg s5.size (fun k hk => by cases hk; exact Nat.le_refl _)
  clear o6' hg o5 s5
  go_wp2_with (at_builtin; refine wpList_append_fits _ rfl (.tmp 93) (.tmp 94) 22 rfl w3.heap.size 5 inf 1 Try.underlying22 hi hz1 w3.heap.size (0 + 1 + out.length) (out.length + 8 + n4 + n5) (bl ([] ++ [34] ++ out)) rfl (o6.alloc _) ⟨w6.heap.size, 0, none⟩ 2 2 (bl [92, 117]) rfl rfl (news_new w6 (bl [92, 117]) 5) (bl_one _) (by omega) ?_)
  intro w7 o7' hg
  have o7 : w7.ownsRow w3.heap.size 5 1 (.slice (some ⟨w3.heap.size, 0, none⟩) (0 + 1 + out.length + 2) (out.length + 8 + n4 + n5)) (0 + 1 + out.length + 2) (bl ([] ++ [34] ++ out ++ [92, 117])) := by rw [bl_app]; exact o7'
  have s7 : w3.Since w3.heap.size w7 := (s6.alloc s6.size _).grown hg (by have := s6.size; simp; omega) (fun k hk => by cases hk; exact Nat.le_refl _)
  clear o7' hg o6 s6
  have hc5 := IsInts.cellsL (i4.since s7 (Nat.le_refl _))
  go_wp2_with (at_builtin; refine wpList_append_fits_any _ rfl (.tmp 96) (.tmp 97) 22 rfl w3.heap.size 5 inf 1 Try.underlying22 hi hz1 w3.heap.size (0 + 1 + out.length + 2) (out.length + 8 + n4 + n5) (bl ([] ++ [34] ++ out ++ [92, 117])) rfl o7 a4 n4 c4 (bl ((List.range n4).map f4)) rfl (by rw [bl_len]; simp) z4 hc5 (bl_one _) (by omega) ?_)
  intro w8 o8' hg
  have o8 : w8.ownsRow w3.heap.size 5 1 (.slice (some ⟨w3.heap.size, 0, none⟩) (0 + 1 + out.length + 2 + n4) (out.length + 8 + n4 + n5)) (0 + 1 + out.length + 2 + n4) (bl ([] ++ [34] ++ out ++ [92, 117] ++ ((List.range n4).map f4))) := by rw [bl_app]; exact o8'
  have s8 : w3.Since w3.heap.size w8 := s7.grown hg s7.size (fun k hk => by cases hk; exact Nat.le_refl _)
  clear o8' hg o7 s7
  obtain ⟨hlen, kI⟩ := owned_isInts o8
  have hq : Hid (quo (by_ ([] ++ [34] ++ out ++ [92, 117] ++ ((List.range n4).map f4))) (0 + 1 + out.length + 2 + n4) 0 = none) := by
    show quo (by_ ([] ++ [34] ++ out ++ [92, 117] ++ ((List.range n4).map f4))) (0 + 1 + out.length + 2 + n4) 0 = none
    rw [hlen, show ([] ++ [34] ++ out ++ [92, 117] ++ ((List.range n4).map f4)) = 34 :: (out ++ 92 :: 117 :: ((List.range n4).map f4)) from by simp]
    exact broken5 HP.out (by simp; omega)
  clear hlen o8
  go_wp2_with fail
  refine (new_zero w8 (some ⟨w3.heap.size, 0, none⟩) (0 + 1 + out.length + 2 + n4) (out.length + 8 + n4 + n5)).mono ?_
  rintro e wn ⟨rfl, rfl⟩
  go_wp2_with fail
  refine (quoted_new w8 (some ⟨w3.heap.size, 0, none⟩) (0 + 1 + out.length + 2 + n4) (out.length + 8 + n4 + n5) 0 _ (by omega) (by omega) (Nat.zero_le _) kI).mono ?_
  rw [hq.out]
  rintro e wq ⟨rfl, sq, _⟩
  have sfin := Since.step (Since.step ss3 s8) sq
  go_wp2
  go_ret
  exact ⟨rfl, sfin⟩
set_option maxHeartbeats 3200000 in
set_option maxRecDepth 100000 in
theorem brk4a (kd b q0 q1 q2 q3 : Int) (a1 a4 a5 : Option Addr) (n1 n4 n5 c1 c4 c5 : Nat) (f1 f4 f5 : Nat → Int) (w : World) (I : BrkIn w a1 a4 a5 n1 n4 n5 c1 c4 c5 f1 f4 f5) (k0 : 0 ≤ kd) (k255 : kd ≤ 255) (hk : kd % 6 = 4) (X0 : Hid (hexB q0 = false)) (HX : Hid (¬ (hexB q0 = true ∧ hexB q1 = true ∧ hexB q2 = true ∧ hexB q3 = true))) :
    Calls Try.prog 4 #[.slice a1 n1 c1, .int .u8 kd, .int .u8 b, .agg #[.int .u8 q0, .int .u8 q1, .int .u8 q2, .int .u8 q3], .slice a4 n4 c4, .slice a5 n5 c5] w fun e w' => e = .returned (.bool true) ∧ w.Since w.heap.size w' := by
  obtain ⟨inf, hi, hz0, hz1, hz2⟩ := info_parts Try.info5
  have I' : Hid (BrkIn w a1 a4 a5 n1 n4 n5 c1 c4 c5 f1 f4 f5) := I
  clear I
  go_enter Try.func4, Try.ntmps4
  go_wp2_with fail
  refine (zzBroken _ _ _ _ _ _ _ _ _ _ _ _ _ _ _ _ I'.out.m1 I'.out.m4 I'.out.m5).mono ?_
  rintro e w1 ⟨⟨r, rfl⟩, s1'⟩
  have s0 : w.Since w.heap.size (w.alloc (Obj.cells #[Value.int IntKind.u8 q0, Value.int IntKind.u8 q1, Value.int IntKind.u8 q2, Value.int IntKind.u8 q3] 31)) := (World.Since.refl _ _).alloc (Nat.le_refl _) _
  have s1 := Since.step s0 s1'
  cases r
  · go_wp2
    go_ret
    exact ⟨rfl, s1⟩
  by_cases t1 : (65536 : Int) < n1
  · go_wp2
    go_ret
    exact ⟨rfl, s1⟩
  by_cases t2 : (65536 : Int) < n4
  · go_wp2
    go_ret
    exact ⟨rfl, s1⟩
  by_cases t3 : (65536 : Int) < n5
  · go_wp2
    go_ret
    exact ⟨rfl, s1⟩
  have l1 : n1 ≤ 65536 := by omega
  have l4 : n4 ≤ 65536 := by omega
  have l5 : n5 ≤ 65536 := by omega
  clear t1 t2 t3
  have hlt1 : w.heap.size < w1.heap.size := by have := s1'.size; simp at this; omega
  have qc : ∀ i x, [Value.int .u8 q0, .int .u8 q1, .int .u8 q2, .int .u8 q3][i]? = some x → w1.cell? ⟨w.heap.size, i, none⟩ = some x := by
    intro i x hx
    have := news_new w [Value.int .u8 q0, .int .u8 q1, .int .u8 q2, .int .u8 q3] 31 i x hx
    rw [Addr.add_lit, Nat.zero_add] at this
    rw [s1'.cell (a := ⟨w.heap.size, i, none⟩) (by simp)]
    exact this
  have g0 := qc 0 _ rfl
  have g1 := qc 1 _ rfl
  have g2 := qc 2 _ rfl
  have g3 := qc 3 _ rfl
  clear qc
  go_wp2_with fail
  refine (hex18_any _ _).mono ?_
  rintro e w2 ⟨rfl, rfl⟩
  rw [X0.out]
  go_wp2_with fail
  refine (encode_any w1 a1 n1 c1 f1 l1 (I'.out.h1.since s1 (Nat.le_refl _)) I'.out.by1).mono ?_
  rintro e w3 ⟨ae, ce, out, rfl, hP, hol, hE, s3⟩
  have ss3 := Since.step s1 s3
  have y0 := (s3.cell (a := ⟨w.heap.size, 0, none⟩) hlt1).trans g0
  have y1 := (s3.cell (a := ⟨w.heap.size, 1, none⟩) hlt1).trans g1
  have y2 := (s3.cell (a := ⟨w.heap.size, 2, none⟩) hlt1).trans g2
  have y3 := (s3.cell (a := ⟨w.heap.size, 3, none⟩) hlt1).trans g3
  have hlt3 : w.heap.size < w3.heap.size := Nat.lt_of_lt_of_le hlt1 s3.size
  clear g0 g1 g2 g3
  have HP : Hid (Passes out) := hP
  have iE := (owned_isInts hE).2
  have zE : ae = none → out.length = 0 ∧ ce = 0 := by
    intro h
    rcases hE.2 with ⟨hv, h0⟩ | ⟨g, cap, cur, hv, _⟩
    · simp only [Value.slice.injEq] at hv; exact ⟨h0, hv.2.2⟩
    · simp only [Value.slice.injEq] at hv; rw [h] at hv; cases hv.1
  have i4 := I'.out.h4.since ss3 (Nat.le_refl _)
  have i5 := I'.out.h5.since ss3 (Nat.le_refl _)
  have z4 := I'.out.z4
  have z5 := I'.out.z5
  clear s1 s0 s1' s3 hP hE
  go_wp2_with (at_make; refine wpList_make_own _ rfl _ _ 22 rfl w3.heap.size 5 inf (.int .u8 0) 1 Try.underlying22 hi hz0 hz1 _ _ _ (out.length + 8 + n4 + n5) rfl rfl (by omega) ?b1 ?b2 ?b3 ?_)
  case b1 => rw [hz2]; omega
  case b2 => unfold maxLen; omega
  case b3 => exact Nat.le_refl _
  intro w4 o4' hg4
  have o4 : w4.ownsRow w3.heap.size 5 1 (.slice (some ⟨w3.heap.size, 0, none⟩) 0 (out.length + 8 + n4 + n5)) 0 (bl []) := o4'
  have s4 : w3.Since w3.heap.size w4 := (World.Since.refl _ _).grown hg4 (Nat.le_refl _) (fun k hk => by cases hk)
  clear hg4 o4'
  go_wp2_with (at_builtin; refine wpList_append_fits _ rfl (.tmp 86) (.tmp 87) 22 rfl w3.heap.size 5 inf 1 Try.underlying22 hi hz1 w3.heap.size (0) (out.length + 8 + n4 + n5) (bl ([])) rfl (o4.alloc _) ⟨w4.heap.size, 0, none⟩ 1 1 (bl [34]) rfl rfl (news_new w4 (bl [34]) 5) (bl_one _) (by omega) ?_)
  intro w5 o5' hg
  have o5 : w5.ownsRow w3.heap.size 5 1 (.slice (some ⟨w3.heap.size, 0, none⟩) (0 + 1) (out.length + 8 + n4 + n5)) (0 + 1) (bl ([] ++ [34])) := by rw [bl_app]; exact o5'
  have s5 : w3.Since w3.heap.size w5 := (s4.alloc s4.size _).grown hg (by have := s4.size; simp; omega) (fun k hk => by cases hk; exact Nat.le_refl _)
  clear o5' hg o4 s4
  have hcE := IsInts.cellsL (iE.since s5 (Nat.le_refl _))
  rw [range_by] at hcE
  go_wp2_with (at_builtin; refine wpList_append_fits_any _ rfl (.tmp 89) (.tmp 90) 22 rfl w3.heap.size 5 inf 1 Try.underlying22 hi hz1 w3.heap.size (0 + 1) (out.length + 8 + n4 + n5) (bl ([] ++ [34])) rfl o5 ae out.length ce (bl out) rfl (by rw [bl_len]; simp) zE hcE (bl_one _) (by omega) ?_)
  intro w6 o6' hg
  have o6 : w6.ownsRow w3.heap.size 5 1 (.slice (some ⟨w3.heap.size, 0, none⟩) (0 + 1 + out.length) (out.length + 8 + n4 + n5)) (0 + 1 + out.length) (bl ([] ++ [34] ++ out)) := by rw [bl_app]; exact o6'
  have s6 : w3.Since w3.heap.size w6 := s5.grown hg s5.size (fun k hk => by cases hk; exact Nat.le_refl _)
  clear o6' hg o5 s5
  have v0 := (s6.cell (a := ⟨w.heap.size, 0, none⟩) hlt3).trans y0
  have v1 := (s6.cell (a := ⟨w.heap.size, 1, none⟩) hlt3).trans y1
  have v2 := (s6.cell (a := ⟨w.heap.size, 2, none⟩) hlt3).trans y2
  have v3 := (s6.cell (a := ⟨w.heap.size, 3, none⟩) hlt3).trans y3
  clear y0 y1 y2 y3
  go_wp2_with (at_builtin; refine wpList_append_fits _ rfl (.tmp 127) (.tmp 136) 22 rfl w3.heap.size 5 inf 1 Try.underlying22 hi hz1 w3.heap.size (0 + 1 + out.length) (out.length + 8 + n4 + n5) (bl ([] ++ [34] ++ out)) rfl (o6.alloc _) ⟨w6.heap.size, 0, none⟩ 6 6 (bl [92, 117, q0, q1, q2, q3]) rfl rfl (news_new w6 (bl [92, 117, q0, q1, q2, q3]) 5) (bl_one _) (by omega) ?_)
  intro w7 o7' hg
  have o7 : w7.ownsRow w3.heap.size 5 1 (.slice (some ⟨w3.heap.size, 0, none⟩) (0 + 1 + out.length + 6) (out.length + 8 + n4 + n5)) (0 + 1 + out.length + 6) (bl ([] ++ [34] ++ out ++ [92, 117, q0, q1, q2, q3])) := by rw [bl_app]; exact o7'
  have s7 : w3.Since w3.heap.size w7 := (s6.alloc s6.size _).grown hg (by have := s6.size; simp; omega) (fun k hk => by cases hk; exact Nat.le_refl _)
  clear o7' hg o6 s6
  have hc5 := IsInts.cellsL (i5.since s7 (Nat.le_refl _))
  go_wp2_with (at_builtin; refine wpList_append_fits_any _ rfl (.tmp 138) (.tmp 139) 22 rfl w3.heap.size 5 inf 1 Try.underlying22 hi hz1 w3.heap.size (0 + 1 + out.length + 6) (out.length + 8 + n4 + n5) (bl ([] ++ [34] ++ out ++ [92, 117, q0, q1, q2, q3])) rfl o7 a5 n5 c5 (bl ((List.range n5).map f5)) rfl (by rw [bl_len]; simp) z5 hc5 (bl_one _) (by omega) ?_)
  intro w8 o8' hg
  have o8 : w8.ownsRow w3.heap.size 5 1 (.slice (some ⟨w3.heap.size, 0, none⟩) (0 + 1 + out.length + 6 + n5) (out.length + 8 + n4 + n5)) (0 + 1 + out.length + 6 + n5) (bl ([] ++ [34] ++ out ++ [92, 117, q0, q1, q2, q3] ++ ((List.range n5).map f5))) := by rw [bl_app]; exact o8'
  have s8 : w3.Since w3.heap.size w8 := s7.grown hg s7.size (fun k hk => by cases hk; exact Nat.le_refl _)
  clear o8' hg o7 s7
  obtain ⟨hlen, kI⟩ := owned_isInts o8
  have hq : Hid (quo (by_ ([] ++ [34] ++ out ++ [92, 117, q0, q1, q2, q3] ++ ((List.range n5).map f5))) (0 + 1 + out.length + 6 + n5) 0 = none) := by
    show quo (by_ ([] ++ [34] ++ out ++ [92, 117, q0, q1, q2, q3] ++ ((List.range n5).map f5))) (0 + 1 + out.length + 6 + n5) 0 = none
    rw [hlen, show ([] ++ [34] ++ out ++ [92, 117, q0, q1, q2, q3] ++ ((List.range n5).map f5)) = 34 :: (out ++ 92 :: 117 :: q0 :: q1 :: q2 :: q3 :: ((List.range n5).map f5)) from by simp]
    exact broken4 HP.out HX.out
  clear hlen o8
  go_wp2_with fail
  refine (new_zero w8 (some ⟨w3.heap.size, 0, none⟩) (0 + 1 + out.length + 6 + n5) (out.length + 8 + n4 + n5)).mono ?_
  rintro e wn ⟨rfl, rfl⟩
  go_wp2_with fail
  refine (quoted_new w8 (some ⟨w3.heap.size, 0, none⟩) (0 + 1 + out.length + 6 + n5) (out.length + 8 + n4 + n5) 0 _ (by omega) (by omega) (Nat.zero_le _) kI).mono ?_
  rw [hq.out]
  rintro e wq ⟨rfl, sq, _⟩
  have sfin := Since.step (Since.step ss3 s8) sq
  go_wp2
  go_ret
  exact ⟨rfl, sfin⟩
set_option maxHeartbeats 3200000 in
set_option maxRecDepth 100000 in
theorem brk4b (kd b q0 q1 q2 q3 : Int) (a1 a4 a5 : Option Addr) (n1 n4 n5 c1 c4 c5 : Nat) (f1 f4 f5 : Nat → Int) (w : World) (I : BrkIn w a1 a4 a5 n1 n4 n5 c1 c4 c5 f1 f4 f5) (k0 : 0 ≤ kd) (k255 : kd ≤ 255) (hk : kd % 6 = 4) (X0 : Hid (hexB q0 = true)) (X1 : Hid (hexB q1 = false)) (HX : Hid (¬ (hexB q0 = true ∧ hexB q1 = true ∧ hexB q2 = true ∧ hexB q3 = true))) :
    Calls Try.prog 4 #[.slice a1 n1 c1, .int .u8 kd, .int .u8 b, .agg #[.int .u8 q0, .int .u8 q1, .int .u8 q2, .int .u8 q3], .slice a4 n4 c4, .slice a5 n5 c5] w fun e w' => e = .returned (.bool true) ∧ w.Since w.heap.size w' := by
  obtain ⟨inf, hi, hz0, hz1, hz2⟩ := info_parts Try.info5
  have I' : Hid (BrkIn w a1 a4 a5 n1 n4 n5 c1 c4 c5 f1 f4 f5) := I
  clear I
  go_enter Try.func4, Try.ntmps4
  go_wp2_with fail
  refine (zzBroken _ _ _ _ _ _ _ _ _ _ _ _ _ _ _ _ I'.out.m1 I'.out.m4 I'.out.m5).mono ?_
  rintro e w1 ⟨⟨r, rfl⟩, s1'⟩
  have s0 : w.Since w.heap.size (w.alloc (Obj.cells #[Value.int IntKind.u8 q0, Value.int IntKind.u8 q1, Value.int IntKind.u8 q2, Value.int IntKind.u8 q3] 31)) := (World.Since.refl _ _).alloc (Nat.le_refl _) _
  have s1 := Since.step s0 s1'
  cases r
  · go_wp2
    go_ret
    exact ⟨rfl, s1⟩
  by_cases t1 : (65536 : Int) < n1
  · go_wp2
    go_ret
    exact ⟨rfl, s1⟩
  by_cases t2 : (65536 : Int) < n4
  · go_wp2
    go_ret
    exact ⟨rfl, s1⟩
  by_cases t3 : (65536 : Int) < n5
  · go_wp2
    go_ret
    exact ⟨rfl, s1⟩
  have l1 : n1 ≤ 65536 := by omega
  have l4 : n4 ≤ 65536 := by omega
  have l5 : n5 ≤ 65536 := by omega
  clear t1 t2 t3
  have hlt1 : w.heap.size < w1.heap.size := by have := s1'.size; simp at this; omega
  have qc : ∀ i x, [Value.int .u8 q0, .int .u8 q1, .int .u8 q2, .int .u8 q3][i]? = some x → w1.cell? ⟨w.heap.size, i, none⟩ = some x := by
    intro i x hx
    have := news_new w [Value.int .u8 q0, .int .u8 q1, .int .u8 q2, .int .u8 q3] 31 i x hx
    rw [Addr.add_lit, Nat.zero_add] at this
    rw [s1'.cell (a := ⟨w.heap.size, i, none⟩) (by simp)]
    exact this
  have g0 := qc 0 _ rfl
  have g1 := qc 1 _ rfl
  have g2 := qc 2 _ rfl
  have g3 := qc 3 _ rfl
  clear qc
  go_wp2_with fail
  refine (hex18_any _ _).mono ?_
  rintro e w2 ⟨rfl, rfl⟩
  rw [X0.out]
  go_wp2_with fail
  refine (hex18_any _ _).mono ?_
  rintro e w2 ⟨rfl, rfl⟩
  rw [X1.out]
  go_wp2_with fail
  refine (encode_any w1 a1 n1 c1 f1 l1 (I'.out.h1.since s1 (Nat.le_refl _)) I'.out.by1).mono ?_
  rintro e w3 ⟨ae, ce, out, rfl, hP, hol, hE, s3⟩
  have ss3 := Since.step s1 s3
  have y0 := (s3.cell (a := ⟨w.heap.size, 0, none⟩) hlt1).trans g0
  have y1 := (s3.cell (a := ⟨w.heap.size, 1, none⟩) hlt1).trans g1
  have y2 := (s3.cell (a := ⟨w.heap.size, 2, none⟩) hlt1).trans g2
  have y3 := (s3.cell (a := ⟨w.heap.size, 3, none⟩) hlt1).trans g3
  have hlt3 : w.heap.size < w3.heap.size := Nat.lt_of_lt_of_le hlt1 s3.size
  clear g0 g1 g2 g3
  have HP : Hid (Passes out) := hP
  have iE := (owned_isInts hE).2
  have zE : ae = none → out.length = 0 ∧ ce = 0 := by
    intro h
    rcases hE.2 with ⟨hv, h0⟩ | ⟨g, cap, cur, hv, _⟩
    · simp only [Value.slice.injEq] at hv; exact ⟨h0, hv.2.2⟩
    · simp only [Value.slice.injEq] at hv; rw [h] at hv; cases hv.1
  have i4 := I'.out.h4.since ss3 (Nat.le_refl _)
  have i5 := I'.out.h5.since ss3 (Nat.le_refl _)
  have z4 := I'.out.z4
  have z5 := I'.out.z5
  clear s1 s0 s1' s3 hP hE
  go_wp2_with (at_make; refine wpList_make_own _ rfl _ _ 22 rfl w3.heap.size 5 inf (.int .u8 0) 1 Try.underlying22 hi hz0 hz1 _ _ _ (out.length + 8 + n4 + n5) rfl rfl (by omega) ?b1 ?b2 ?b3 ?_)
  case b1 => rw [hz2]; omega
  case b2 => unfold maxLen; omega
  case b3 => exact Nat.le_refl _
  intro w4 o4' hg4
  have o4 : w4.ownsRow w3.heap.size 5 1 (.slice (some ⟨w3.heap.size, 0, none⟩) 0 (out.length + 8 + n4 + n5)) 0 (bl []) := o4'
  have s4 : w3.Since w3.heap.size w4 := (World.Since.refl _ _).grown hg4 (Nat.le_refl _) (fun k hk => by cases hk)
  clear hg4 o4'
  go_wp2_with (at_builtin; refine wpList_append_fits _ rfl (.tmp 86) (.tmp 87) 22 rfl w3.heap.size 5 inf 1 Try.underlying22 hi hz1 w3.heap.size (0) (out.length + 8 + n4 + n5) (bl ([])) rfl (o4.alloc _) ⟨w4.heap.size, 0, none⟩ 1 1 (bl [34]) rfl rfl (news_new w4 (bl [34]) 5) (bl_one _) (by omega) ?_)
  intro w5 o5' hg
  have o5 : w5.ownsRow w3.heap.size 5 1 (.slice (some ⟨w3.heap.size, 0, none⟩) (0 + 1) (out.length + 8 + n4 + n5)) (0 + 1) (bl ([] ++ [34])) := by rw [bl_app]; exact o5'
  have s5 : w3.Since w3.heap.size w5 := (s4.alloc s4.size _).grown hg (by have := s4.size; simp; omega) (fun k hk => by cases hk; exact Nat.le_refl _)
  clear o5' hg o4 s4
  have hcE := IsInts.cellsL (iE.since s5 (Nat.le_refl _))
  rw [range_by] at hcE
  go_wp2_with (at_builtin; refine wpList_append_fits_any _ rfl (.tmp 89) (.tmp 90) 22 rfl w3.heap.size 5 inf 1 Try.underlying22 hi hz1 w3.heap.size (0 + 1) (out.length + 8 + n4 + n5) (bl ([] ++ [34])) rfl o5 ae out.length ce (bl out) rfl (by rw [bl_len]; simp) zE hcE (bl_one _) (by omega) ?_)
  intro w6 o6' hg
  have o6 : w6.ownsRow w3.heap.size 5 1 (.slice (some ⟨w3.heap.size, 0, none⟩) (0 + 1 + out.length) (out.length + 8 + n4 + n5)) (0 + 1 + out.length) (bl ([] ++ [34] ++ out)) := by rw [bl_app]; exact o6'
  have s6 : w3.Since w3.heap.size w6 := s5.grown hg s5.size (fun k hk => by cases hk; exact Nat.le_refl _)
  clear o6' hg o5 s5
  have v0 := (s6.cell (a := ⟨w.heap.size, 0, none⟩) hlt3).trans y0
  have v1 := (s6.cell (a := ⟨w.heap.size, 1, none⟩) hlt3).trans y1
  have v2 := (s6.cell (a := ⟨w.heap.size, 2, none⟩) hlt3).trans y2
  have v3 := (s6.cell (a := ⟨w.heap.size, 3, none⟩) hlt3).trans y3
  clear y0 y1 y2 y3
  go_wp2_with (at_builtin; refine wpList_append_fits _ rfl (.tmp 127) (.tmp 136) 22 rfl w3.heap.size 5 inf 1 Try.underlying22 hi hz1 w3.heap.size (0 + 1 + out.length) (out.length + 8 + n4 + n5) (bl ([] ++ [34] ++ out)) rfl (o6.alloc _) ⟨w6.heap.size, 0, none⟩ 6 6 (bl [92, 117, q0, q1, q2, q3]) rfl rfl (news_new w6 (bl [92, 117, q0, q1, q2, q3]) 5) (bl_one _) (by omega) ?_)
  intro w7 o7' hg
  have o7 : w7.ownsRow w3.heap.size 5 1 (.slice (some ⟨w3.heap.size, 0, none⟩) (0 + 1 + out.length + 6) (out.length + 8 + n4 + n5)) (0 + 1 + out.length + 6) (bl ([] ++ [34] ++ out ++ [92, 117, q0, q1, q2, q3])) := by rw [bl_app]; exact o7'
  have s7 : w3.Since w3.heap.size w7 := (s6.alloc s6.size _).grown hg (by have := s6.size; simp; omega) (fun k hk => by cases hk; exact Nat.le_refl _)
  clear o7' hg o6 s6
  have hc5 := IsInts.cellsL (i5.since s7 (Nat.le_refl _))
  go_wp2_with (at_builtin; refine wpList_append_fits_any _ rfl (.tmp 138) (.tmp 139) 22 rfl w3.heap.size 5 inf 1 Try.underlying22 hi hz1 w3.heap.size (0 + 1 + out.length + 6) (out.length + 8 + n4 + n5) (bl ([] ++ [34] ++ out ++ [92, 117, q0, q1, q2, q3])) rfl o7 a5 n5 c5 (bl ((List.range n5).map f5)) rfl (by rw [bl_len]; simp) z5 hc5 (bl_one _) (by omega) ?_)
  intro w8 o8' hg
  have o8 : w8.ownsRow w3.heap.size 5 1 (.slice (some ⟨w3.heap.size, 0, none⟩) (0 + 1 + out.length + 6 + n5) (out.length + 8 + n4 + n5)) (0 + 1 + out.length + 6 + n5) (bl ([] ++ [34] ++ out ++ [92, 117, q0, q1, q2, q3] ++ ((List.range n5).map f5))) := by rw [bl_app]; exact o8'
  have s8 : w3.Since w3.heap.size w8 := s7.grown hg s7.size (fun k hk => by cases hk; exact Nat.le_refl _)
  clear o8' hg o7 s7
  obtain ⟨hlen, kI⟩ := owned_isInts o8
  have hq : Hid (quo (by_ ([] ++ [34] ++ out ++ [92, 117, q0, q1, q2, q3] ++ ((List.range n5).map f5))) (0 + 1 + out.length + 6 + n5) 0 = none) := by
    show quo (by_ ([] ++ [34] ++ out ++ [92, 117, q0, q1, q2, q3] ++ ((List.range n5).map f5))) (0 + 1 + out.length + 6 + n5) 0 = none
    rw [hlen, show ([] ++ [34] ++ out ++ [92, 117, q0, q1, q2, q3] ++ ((List.range n5).map f5)) = 34 :: (out ++ 92 :: 117 :: q0 :: q1 :: q2 :: q3 :: ((List.range n5).map f5)) from by simp]
    exact broken4 HP.out HX.out
  clear hlen o8
  go_wp2_with fail
  refine (new_zero w8 (some ⟨w3.heap.size, 0, none⟩) (0 + 1 + out.length + 6 + n5) (out.length + 8 + n4 + n5)).mono ?_
  rintro e wn ⟨rfl, rfl⟩
  go_wp2_with fail
  refine (quoted_new w8 (some ⟨w3.heap.size, 0, none⟩) (0 + 1 + out.length + 6 + n5) (out.length + 8 + n4 + n5) 0 _ (by omega) (by omega) (Nat.zero_le _) kI).mono ?_
  rw [hq.out]
  rintro e wq ⟨rfl, sq, _⟩
  have sfin := Since.step (Since.step ss3 s8) sq
  go_wp2
  go_ret
  exact ⟨rfl, sfin⟩
set_option maxHeartbeats 3200000 in
set_option maxRecDepth 100000 in
theorem brk4c (kd b q0 q1 q2 q3 : Int) (a1 a4 a5 : Option Addr) (n1 n4 n5 c1 c4 c5 : Nat) (f1 f4 f5 : Nat → Int) (w : World) (I : BrkIn w a1 a4 a5 n1 n4 n5 c1 c4 c5 f1 f4 f5) (k0 : 0 ≤ kd) (k255 : kd ≤ 255) (hk : kd % 6 = 4) (X0 : Hid (hexB q0 = true)) (X1 : Hid (hexB q1 = true)) (X2 : Hid (hexB q2 = false)) (HX : Hid (¬ (hexB q0 = true ∧ hexB q1 = true ∧ hexB q2 = true ∧ hexB q3 = true))) :
    Calls Try.prog 4 #[.slice a1 n1 c1, .int .u8 kd, .int .u8 b, .agg #[.int .u8 q0, .int .u8 q1, .int .u8 q2, .int .u8 q3], .slice a4 n4 c4, .slice a5 n5 c5] w fun e w' => e = .returned (.bool true) ∧ w.Since w.heap.size w' := by
  obtain ⟨inf, hi, hz0, hz1, hz2⟩ := info_parts Try.info5
  have I' : Hid (BrkIn w a1 a4 a5 n1 n4 n5 c1 c4 c5 f1 f4 f5) := I
  clear I
  go_enter Try.func4, Try.ntmps4
  go_wp2_with fail
  refine (zzBroken _ _ _ _ _ _ _ _ _ _ _ _ _ _ _ _ I'.out.m1 I'.out.m4 I'.out.m5).mono ?_
  rintro e w1 ⟨⟨r, rfl⟩, s1'⟩
  have s0 : w.Since w.heap.size (w.alloc (Obj.cells #[Value.int IntKind.u8 q0, Value.int IntKind.u8 q1, Value.int IntKind.u8 q2, Value.int IntKind.u8 q3] 31)) := (World.Since.refl _ _).alloc (Nat.le_refl _) _
  have s1 := Since.step s0 s1'
  cases r
  · go_wp2
    go_ret
    exact ⟨rfl, s1⟩
  by_cases t1 : (65536 : Int) < n1
  · go_wp2
    go_ret
    exact ⟨rfl, s1⟩
  by_cases t2 : (65536 : Int) < n4
  · go_wp2
    go_ret
    exact ⟨rfl, s1⟩
  by_cases t3 : (65536 : Int) < n5
  · go_wp2
    go_ret
    exact ⟨rfl, s1⟩
  have l1 : n1 ≤ 65536 := by omega
  have l4 : n4 ≤ 65536 := by omega
  have l5 : n5 ≤ 65536 := by omega
  clear t1 t2 t3
  have hlt1 : w.heap.size < w1.heap.size := by have := s1'.size; simp at this; omega
  have qc : ∀ i x, [Value.int .u8 q0, .int .u8 q1, .int .u8 q2, .int .u8 q3][i]? = some x → w1.cell? ⟨w.heap.size, i, none⟩ = some x := by
    intro i x hx
    have := news_new w [Value.int .u8 q0, .int .u8 q1, .int .u8 q2, .int .u8 q3] 31 i x hx
    rw [Addr.add_lit, Nat.zero_add] at this
    rw [s1'.cell (a := ⟨w.heap.size, i, none⟩) (by simp)]
    exact this
  have g0 := qc 0 _ rfl
  have g1 := qc 1 _ rfl
  have g2 := qc 2 _ rfl
  have g3 := qc 3 _ rfl
  clear qc
  go_wp2_with fail
  refine (hex18_any _ _).mono ?_
  rintro e w2 ⟨rfl, rfl⟩
  rw [X0.out]
  go_wp2_with fail
  refine (hex18_any _ _).mono ?_
  rintro e w2 ⟨rfl, rfl⟩
  rw [X1.out]
  go_wp2_with fail
  refine (hex18_any _ _).mono ?_
  rintro e w2 ⟨rfl, rfl⟩
  rw [X2.out]
  go_wp2_with fail
  refine (encode_any w1 a1 n1 c1 f1 l1 (I'.out.h1.since s1 (Nat.le_refl _)) I'.out.by1).mono ?_
  rintro e w3 ⟨ae, ce, out, rfl, hP, hol, hE, s3⟩
  have ss3 := Since.step s1 s3
  have y0 := (s3.cell (a := ⟨w.heap.size, 0, none⟩) hlt1).trans g0
  have y1 := (s3.cell (a := ⟨w.heap.size, 1, none⟩) hlt1).trans g1
  have y2 := (s3.cell (a := ⟨w.heap.size, 2, none⟩) hlt1).trans g2
  have y3 := (s3.cell (a := ⟨w.heap.size, 3, none⟩) hlt1).trans g3
  have hlt3 : w.heap.size < w3.heap.size := Nat.lt_of_lt_of_le hlt1 s3.size
  clear g0 g1 g2 g3
  have HP : Hid (Passes out) := hP
  have iE := (owned_isInts hE).2
  have zE : ae = none → out.length = 0 ∧ ce = 0 := by
    intro h
    rcases hE.2 with ⟨hv, h0⟩ | ⟨g, cap, cur, hv, _⟩
    · simp only [Value.slice.injEq] at hv; exact ⟨h0, hv.2.2⟩
    · simp only [Value.slice.injEq] at hv; rw [h] at hv; cases hv.1
  have i4 := I'.out.h4.since ss3 (Nat.le_refl _)
  have i5 := I'.out.h5.since ss3 (Nat.le_refl _)
  have z4 := I'.out.z4
  have z5 := I'.out.z5
  clear s1 s0 s1' s3 hP hE
  go_wp2_with (at_make; refine wpList_make_own _ rfl _ _ 22 rfl w3.heap.size 5 inf (.int .u8 0) 1 Try.underlying22 hi hz0 hz1 _ _ _ (out.length + 8 + n4 + n5) rfl rfl (by omega) ?b1 ?b2 ?b3 ?_)
  case b1 => rw [hz2]; omega
  case b2 => unfold maxLen; omega
  case b3 => exact Nat.le_refl _
  intro w4 o4' hg4
  have o4 : w4.ownsRow w3.heap.size 5 1 (.slice (some ⟨w3.heap.size, 0, none⟩) 0 (out.length + 8 + n4 + n5)) 0 (bl []) := o4'
  have s4 : w3.Since w3.heap.size w4 := (World.Since.refl _ _).grown hg4 (Nat.le_refl _) (fun k hk => by cases hk)
  clear hg4 o4'
  go_wp2_with (at_builtin; refine wpList_append_fits _ rfl (.tmp 86) (.tmp 87) 22 rfl w3.heap.size 5 inf 1 Try.underlying22 hi hz1 w3.heap.size (0) (out.length + 8 + n4 + n5) (bl ([])) rfl (o4.alloc _) ⟨w4.heap.size, 0, none⟩ 1 1 (bl [34]) rfl rfl (news_new w4 (bl [34]) 5) (bl_one _) (by omega) ?_)
  intro w5 o5' hg
  have o5 : w5.ownsRow w3.heap.size 5 1 (.slice (some ⟨w3.heap.size, 0, none⟩) (0 + 1) (out.length + 8 + n4 + n5)) (0 + 1) (bl ([] ++ [34])) := by rw [bl_app]; exact o5'
  have s5 : w3.Since w3.heap.size w5 := (s4.alloc s4.size _).grown hg (by have := s4.size; simp; omega) (fun k hk => by cases hk; exact Nat.le_refl _)
  clear o5' hg o4 s4
  have hcE := IsInts.cellsL (iE.since s5 (Nat.le_refl _))
  rw [range_by] at hcE
  go_wp2_with (at_builtin; refine wpList_append_fits_any _ rfl (.tmp 89) (.tmp 90) 22 rfl w3.heap.size 5 inf 1 Try.underlying22 hi hz1 w3.heap.size (0 + 1) (out.length + 8 + n4 + n5) (bl ([] ++ [34])) rfl o5 ae out.length ce (bl out) rfl (by rw [bl_len]; simp) zE hcE (bl_one _) (by omega) ?_)
  intro w6 o6' hg
  have o6 : w6.ownsRow w3.heap.size 5 1 (.slice (some ⟨w3.heap.size, 0, none⟩) (0 + 1 + out.length) (out.length + 8 + n4 + n5)) (0 + 1 + out.length) (bl ([] ++ [34] ++ out)) := by rw [bl_app]; exact o6'
  have s6 : w3.Since w3.heap.size w6 := s5.grown hg s5.size (fun k hk => by cases hk; exact Nat.le_refl _)
  clear o6' hg o5 s5
  have v0 := (s6.cell (a := ⟨w.heap.size, 0, none⟩) hlt3).trans y0
  have v1 := (s6.cell (a := ⟨w.heap.size, 1, none⟩) hlt3).trans y1
  have v2 := (s6.cell (a := ⟨w.heap.size, 2, none⟩) hlt3).trans y2
  have v3 := (s6.cell (a := ⟨w.heap.size, 3, none⟩) hlt3).trans y3
  clear y0 y1 y2 y3
  go_wp2_with (at_builtin; refine wpList_append_fits _ rfl (.tmp 127) (.tmp 136) 22 rfl w3.heap.size 5 inf 1 Try.underlying22 hi hz1 w3.heap.size (0 + 1 + out.length) (out.length + 8 + n4 + n5) (bl ([] ++ [34] ++ out)) rfl (o6.alloc _) ⟨w6.heap.size, 0, none⟩ 6 6 (bl [92, 117, q0, q1, q2, q3]) rfl rfl (news_new w6 (bl [92, 117, q0, q1, q2, q3]) 5) (bl_one _) (by omega) ?_)
  intro w7 o7' hg
  have o7 : w7.ownsRow w3.heap.size 5 1 (.slice (some ⟨w3.heap.size, 0, none⟩) (0 + 1 + out.length + 6) (out.length + 8 + n4 + n5)) (0 + 1 + out.length + 6) (bl ([] ++ [34] ++ out ++ [92, 117, q0, q1, q2, q3])) := by rw [bl_app]; exact o7'
  have s7 : w3.Since w3.heap.size w7 := (s6.alloc s6.size _).grown hg (by have := s6.size; simp; omega) (fun k hk => by cases hk; exact Nat.le_refl _)
  clear o7' hg o6 s6
  have hc5 := IsInts.cellsL (i5.since s7 (Nat.le_refl _))
  go_wp2_with (at_builtin; refine wpList_append_fits_any _ rfl (.tmp 138) (.tmp 139) 22 rfl w3.heap.size 5 inf 1 Try.underlying22 hi hz1 w3.heap.size (0 + 1 + out.length + 6) (out.length + 8 + n4 + n5) (bl ([] ++ [34] ++ out ++ [92, 117, q0, q1, q2, q3])) rfl o7 a5 n5 c5 (bl ((List.range n5).map f5)) rfl (by rw [bl_len]; simp) z5 hc5 (bl_one _) (by omega) ?_)
  intro w8 o8' hg
  have o8 : w8.ownsRow w3.heap.size 5 1 (.slice (some ⟨w3.heap.size, 0, none⟩) (0 + 1 + out.length + 6 + n5) (out.length + 8 + n4 + n5)) (0 + 1 + out.length + 6 + n5) (bl ([] ++ [34] ++ out ++ [92, 117, q0, q1, q2, q3] ++ ((List.range n5).map f5))) := by rw [bl_app]; exact o8'
  have s8 : w3.Since w3.heap.size w8 := s7.grown hg s7.size (fun k hk => by cases hk; exact Nat.le_refl _)
  clear o8' hg o7 s7
  obtain ⟨hlen, kI⟩ := owned_isInts o8
  have hq : Hid (quo (by_ ([] ++ [34] ++ out ++ [92, 117, q0, q1, q2, q3] ++ ((List.range n5).map f5))) (0 + 1 + out.length + 6 + n5) 0 = none) := by
    show quo (by_ ([] ++ [34] ++ out ++ [92, 117, q0, q1, q2, q3] ++ ((List.range n5).map f5))) (0 + 1 + out.length + 6 + n5) 0 = none
    rw [hlen, show ([] ++ [34] ++ out ++ [92, 117, q0, q1, q2, q3] ++ ((List.range n5).map f5)) = 34 :: (out ++ 92 :: 117 :: q0 :: q1 :: q2 :: q3 :: ((List.range n5).map f5)) from by simp]
    exact broken4 HP.out HX.out
  clear hlen o8
  go_wp2_with fail
  refine (new_zero w8 (some ⟨w3.heap.size, 0, none⟩) (0 + 1 + out.length + 6 + n5) (out.length + 8 + n4 + n5)).mono ?_
  rintro e wn ⟨rfl, rfl⟩
  go_wp2_with fail
  refine (quoted_new w8 (some ⟨w3.heap.size, 0, none⟩) (0 + 1 + out.length + 6 + n5) (out.length + 8 + n4 + n5) 0 _ (by omega) (by omega) (Nat.zero_le _) kI).mono ?_
  rw [hq.out]
  rintro e wq ⟨rfl, sq, _⟩
  have sfin := Since.step (Since.step ss3 s8) sq
  go_wp2
  go_ret
  exact ⟨rfl, sfin⟩
set_option maxHeartbeats 3200000 in
set_option maxRecDepth 100000 in
theorem brk4d (kd b q0 q1 q2 q3 : Int) (a1 a4 a5 : Option Addr) (n1 n4 n5 c1 c4 c5 : Nat) (f1 f4 f5 : Nat → Int) (w : World) (I : BrkIn w a1 a4 a5 n1 n4 n5 c1 c4 c5 f1 f4 f5) (k0 : 0 ≤ kd) (k255 : kd ≤ 255) (hk : kd % 6 = 4) (X0 : Hid (hexB q0 = true)) (X1 : Hid (hexB q1 = true)) (X2 : Hid (hexB q2 = true)) (X3 : Hid (hexB q3 = false)) (HX : Hid (¬ (hexB q0 = true ∧ hexB q1 = true ∧ hexB q2 = true ∧ hexB q3 = true))) :
    Calls Try.prog 4 #[.slice a1 n1 c1, .int .u8 kd, .int .u8 b, .agg #[.int .u8 q0, .int .u8 q1, .int .u8 q2, .int .u8 q3], .slice a4 n4 c4, .slice a5 n5 c5] w fun e w' => e = .returned (.bool true) ∧ w.Since w.heap.size w' := by
  obtain ⟨inf, hi, hz0, hz1, hz2⟩ := info_parts Try.info5
  have I' : Hid (BrkIn w a1 a4 a5 n1 n4 n5 c1 c4 c5 f1 f4 f5) := I
  clear I
  go_enter Try.func4, Try.ntmps4
  go_wp2_with fail
  refine (zzBroken _ _ _ _ _ _ _ _ _ _ _ _ _ _ _ _ I'.out.m1 I'.out.m4 I'.out.m5).mono ?_
  rintro e w1 ⟨⟨r, rfl⟩, s1'⟩
  have s0 : w.Since w.heap.size (w.alloc (Obj.cells #[Value.int IntKind.u8 q0, Value.int IntKind.u8 q1, Value.int IntKind.u8 q2, Value.int IntKind.u8 q3] 31)) := (World.Since.refl _ _).alloc (Nat.le_refl _) _
  have s1 := Since.step s0 s1'
  cases r
  · go_wp2
    go_ret
    exact ⟨rfl, s1⟩
  by_cases t1 : (65536 : Int) < n1
  · go_wp2
    go_ret
    exact ⟨rfl, s1⟩
  by_cases t2 : (65536 : Int) < n4
  · go_wp2
    go_ret
    exact ⟨rfl, s1⟩
  by_cases t3 : (65536 : Int) < n5
  · go_wp2
    go_ret
    exact ⟨rfl, s1⟩
  have l1 : n1 ≤ 65536 := by omega
  have l4 : n4 ≤ 65536 := by omega
  have l5 : n5 ≤ 65536 := by omega
  clear t1 t2 t3
  have hlt1 : w.heap.size < w1.heap.size := by have := s1'.size; simp at this; omega
  have qc : ∀ i x, [Value.int .u8 q0, .int .u8 q1, .int .u8 q2, .int .u8 q3][i]? = some x → w1.cell? ⟨w.heap.size, i, none⟩ = some x := by
    intro i x hx
    have := news_new w [Value.int .u8 q0, .int .u8 q1, .int .u8 q2, .int .u8 q3] 31 i x hx
    rw [Addr.add_lit, Nat.zero_add] at this
    rw [s1'.cell (a := ⟨w.heap.size, i, none⟩) (by simp)]
    exact this
  have g0 := qc 0 _ rfl
  have g1 := qc 1 _ rfl
  have g2 := qc 2 _ rfl
  have g3 := qc 3 _ rfl
  clear qc
  go_wp2_with fail
  refine (hex18_any _ _).mono ?_
  rintro e w2 ⟨rfl, rfl⟩
  rw [X0.out]
  go_wp2_with fail
  refine (hex18_any _ _).mono ?_
  rintro e w2 ⟨rfl, rfl⟩
  rw [X1.out]
  go_wp2_with fail
  refine (hex18_any _ _).mono ?_
  rintro e w2 ⟨rfl, rfl⟩
  rw [X2.out]
  go_wp2_with fail
  refine (hex18_any _ _).mono ?_
  rintro e w2 ⟨rfl, rfl⟩
  rw [X3.out]
  go_wp2_with fail
  refine (encode_any w1 a1 n1 c1 f1 l1 (I'.out.h1.since s1 (Nat.le_refl _)) I'.out.by1).mono ?_
  rintro e w3 ⟨ae, ce, out, rfl, hP, hol, hE, s3⟩
  have ss3 := Since.step s1 s3
  have y0 := (s3.cell (a := ⟨w.heap.size, 0, none⟩) hlt1).trans g0
  have y1 := (s3.cell (a := ⟨w.heap.size, 1, none⟩) hlt1).trans g1
  have y2 := (s3.cell (a := ⟨w.heap.size, 2, none⟩) hlt1).trans g2
  have y3 := (s3.cell (a := ⟨w.heap.size, 3, none⟩) hlt1).trans g3
  have hlt3 : w.heap.size < w3.heap.size := Nat.lt_of_lt_of_le hlt1 s3.size
  clear g0 g1 g2 g3
  have HP : Hid (Passes out) := hP
  have iE := (owned_isInts hE).2
  have zE : ae = none → out.length = 0 ∧ ce = 0 := by
    intro h
    rcases hE.2 with ⟨hv, h0⟩ | ⟨g, cap, cur, hv, _⟩
    · simp only [Value.slice.injEq] at hv; exact ⟨h0, hv.2.2⟩
    · simp only [Value.slice.injEq] at hv; rw [h] at hv; cases hv.1
  have i4 := I'.out.h4.since ss3 (Nat.le_refl _)
  have i5 := I'.out.h5.since ss3 (Nat.le_refl _)
  have z4 := I'.out.z4
  have z5 := I'.out.z5
  clear s1 s0 s1' s3 hP hE
  go_wp2_with (at_make; refine wpList_make_own _ rfl _ _ 22 rfl w3.heap.size 5 inf (.int .u8 0) 1 Try.underlying22 hi hz0 hz1 _ _ _ (out.length + 8 + n4 + n5) rfl rfl (by omega) ?b1 ?b2 ?b3 ?_)
  case b1 => rw [hz2]; omega
  case b2 => unfold maxLen; omega
  case b3 => exact Nat.le_refl _
  intro w4 o4' hg4
  have o4 : w4.ownsRow w3.heap.size 5 1 (.slice (some ⟨w3.heap.size, 0, none⟩) 0 (out.length + 8 + n4 + n5)) 0 (bl []) := o4'
  have s4 : w3.Since w3.heap.size w4 := (World.Since.refl _ _).grown hg4 (Nat.le_refl _) (fun k hk => by cases hk)
  clear hg4 o4'
  go_wp2_with (at_builtin; refine wpList_append_fits _ rfl (.tmp 86) (.tmp 87) 22 rfl w3.heap.size 5 inf 1 Try.underlying22 hi hz1 w3.heap.size (0) (out.length + 8 + n4 + n5) (bl ([])) rfl (o4.alloc _) ⟨w4.heap.size, 0, none⟩ 1 1 (bl [34]) rfl rfl (news_new w4 (bl [34]) 5) (bl_one _) (by omega) ?_)
  intro w5 o5' hg
  have o5 : w5.ownsRow w3.heap.size 5 1 (.slice (some ⟨w3.heap.size, 0, none⟩) (0 + 1) (out.length + 8 + n4 + n5)) (0 + 1) (bl ([] ++ [34])) := by rw [bl_app]; exact o5'
  have s5 : w3.Since w3.heap.size w5 := (s4.alloc s4.size _).grown hg (by have := s4.size; simp; omega) (fun k hk => by cases hk; exact Nat.le_refl _)
  clear o5' hg o4 s4
  have hcE := IsInts.cellsL (iE.since s5 (Nat.le_refl _))
  rw [range_by] at hcE
  go_wp2_with (at_builtin; refine wpList_append_fits_any _ rfl (.tmp 89) (.tmp 90) 22 rfl w3.heap.size 5 inf 1 Try.underlying22 hi hz1 w3.heap.size (0 + 1) (out.length + 8 + n4 + n5) (bl ([] ++ [34])) rfl o5 ae out.length ce (bl out) rfl (by rw [bl_len]; simp) zE hcE (bl_one _) (by omega) ?_)
  intro w6 o6' hg
  have o6 : w6.ownsRow w3.heap.size 5 1 (.slice (some ⟨w3.heap.size, 0, none⟩) (0 + 1 + out.length) (out.length + 8 + n4 + n5)) (0 + 1 + out.length) (bl ([] ++ [34] ++ out)) := by rw [bl_app]; exact o6'
  have s6 : w3.Since w3.heap.size w6 := s5.grown hg s5.size (fun k hk => by cases hk; exact Nat.le_refl _)
  clear o6' hg o5 s5
  have v0 := (s6.cell (a := ⟨w.heap.size, 0, none⟩) hlt3).trans y0
  have v1 := (s6.cell (a := ⟨w.heap.size, 1, none⟩) hlt3).trans y1
  have v2 := (s6.cell (a := ⟨w.heap.size, 2, none⟩) hlt3).trans y2
  have v3 := (s6.cell (a := ⟨w.heap.size, 3, none⟩) hlt3).trans y3
  clear y0 y1 y2 y3
  go_wp2_with (at_builtin; refine wpList_append_fits _ rfl (.tmp 127) (.tmp 136) 22 rfl w3.heap.size 5 inf 1 Try.underlying22 hi hz1 w3.heap.size (0 + 1 + out.length) (out.length + 8 + n4 + n5) (bl ([] ++ [34] ++ out)) rfl (o6.alloc _) ⟨w6.heap.size, 0, none⟩ 6 6 (bl [92, 117, q0, q1, q2, q3]) rfl rfl (news_new w6 (bl [92, 117, q0, q1, q2, q3]) 5) (bl_one _) (by omega) ?_)
  intro w7 o7' hg
  have o7 : w7.ownsRow w3.heap.size 5 1 (.slice (some ⟨w3.heap.size, 0, none⟩) (0 + 1 + out.length + 6) (out.length + 8 + n4 + n5)) (0 + 1 + out.length + 6) (bl ([] ++ [34] ++ out ++ [92, 117, q0, q1, q2, q3])) := by rw [bl_app]; exact o7'
  have s7 : w3.Since w3.heap.size w7 := (s6.alloc s6.size _).grown hg (by have := s6.size; simp; omega) (fun k hk => by cases hk; exact Nat.le_refl _)
  clear o7' hg o6 s6
  have hc5 := IsInts.cellsL (i5.since s7 (Nat.le_refl _))
  go_wp2_with (at_builtin; refine wpList_append_fits_any _ rfl (.tmp 138) (.tmp 139) 22 rfl w3.heap.size 5 inf 1 Try.underlying22 hi hz1 w3.heap.size (0 + 1 + out.length + 6) (out.length + 8 + n4 + n5) (bl ([] ++ [34] ++ out ++ [92, 117, q0, q1, q2, q3])) rfl o7 a5 n5 c5 (bl ((List.range n5).map f5)) rfl (by rw [bl_len]; simp) z5 hc5 (bl_one _) (by omega) ?_)
  intro w8 o8' hg
  have o8 : w8.ownsRow w3.heap.size 5 1 (.slice (some ⟨w3.heap.size, 0, none⟩) (0 + 1 + out.length + 6 + n5) (out.length + 8 + n4 + n5)) (0 + 1 + out.length + 6 + n5) (bl ([] ++ [34] ++ out ++ [92, 117, q0, q1, q2, q3] ++ ((List.range n5).map f5))) := by rw [bl_app]; exact o8'
  have s8 : w3.Since w3.heap.size w8 := s7.grown hg s7.size (fun k hk => by cases hk; exact Nat.le_refl _)
  clear o8' hg o7 s7
  obtain ⟨hlen, kI⟩ := owned_isInts o8
  have hq : Hid (quo (by_ ([] ++ [34] ++ out ++ [92, 117, q0, q1, q2, q3] ++ ((List.range n5).map f5))) (0 + 1 + out.length + 6 + n5) 0 = none) := by
    show quo (by_ ([] ++ [34] ++ out ++ [92, 117, q0, q1, q2, q3] ++ ((List.range n5).map f5))) (0 + 1 + out.length + 6 + n5) 0 = none
    rw [hlen, show ([] ++ [34] ++ out ++ [92, 117, q0, q1, q2, q3] ++ ((List.range n5).map f5)) = 34 :: (out ++ 92 :: 117 :: q0 :: q1 :: q2 :: q3 :: ((List.range n5).map f5)) from by simp]
    exact broken4 HP.out HX.out
  clear hlen o8
  go_wp2_with fail
  refine (new_zero w8 (some ⟨w3.heap.size, 0, none⟩) (0 + 1 + out.length + 6 + n5) (out.length + 8 + n4 + n5)).mono ?_
  rintro e wn ⟨rfl, rfl⟩
  go_wp2_with fail
  refine (quoted_new w8 (some ⟨w3.heap.size, 0, none⟩) (0 + 1 + out.length + 6 + n5) (out.length + 8 + n4 + n5) 0 _ (by omega) (by omega) (Nat.zero_le _) kI).mono ?_
  rw [hq.out]
  rintro e wq ⟨rfl, sq, _⟩
  have sfin := Since.step (Since.step ss3 s8) sq
  go_wp2
  go_ret
  exact ⟨rfl, sfin⟩
set_option maxHeartbeats 3200000 in
set_option maxRecDepth 100000 in
theorem brk4e (kd b q0 q1 q2 q3 : Int) (a1 a4 a5 : Option Addr) (n1 n4 n5 c1 c4 c5 : Nat) (f1 f4 f5 : Nat → Int) (w : World) (I : BrkIn w a1 a4 a5 n1 n4 n5 c1 c4 c5 f1 f4 f5) (k0 : 0 ≤ kd) (k255 : kd ≤ 255) (hk : kd % 6 = 4) (X0 : Hid (hexB q0 = true)) (X1 : Hid (hexB q1 = true)) (X2 : Hid (hexB q2 = true)) (X3 : Hid (hexB q3 = true)) :
    Calls Try.prog 4 #[.slice a1 n1 c1, .int .u8 kd, .int .u8 b, .agg #[.int .u8 q0, .int .u8 q1, .int .u8 q2, .int .u8 q3], .slice a4 n4 c4, .slice a5 n5 c5] w fun e w' => e = .returned (.bool true) ∧ w.Since w.heap.size w' := by
  obtain ⟨inf, hi, hz0, hz1, hz2⟩ := info_parts Try.info5
  have I' : Hid (BrkIn w a1 a4 a5 n1 n4 n5 c1 c4 c5 f1 f4 f5) := I
  clear I
  go_enter Try.func4, Try.ntmps4
  go_wp2_with fail
  refine (zzBroken _ _ _ _ _ _ _ _ _ _ _ _ _ _ _ _ I'.out.m1 I'.out.m4 I'.out.m5).mono ?_
  rintro e w1 ⟨⟨r, rfl⟩, s1'⟩
  have s0 : w.Since w.heap.size (w.alloc (Obj.cells #[Value.int IntKind.u8 q0, Value.int IntKind.u8 q1, Value.int IntKind.u8 q2, Value.int IntKind.u8 q3] 31)) := (World.Since.refl _ _).alloc (Nat.le_refl _) _
  have s1 := Since.step s0 s1'
  cases r
  · go_wp2
    go_ret
    exact ⟨rfl, s1⟩
  by_cases t1 : (65536 : Int) < n1
  · go_wp2
    go_ret
    exact ⟨rfl, s1⟩
  by_cases t2 : (65536 : Int) < n4
  · go_wp2
    go_ret
    exact ⟨rfl, s1⟩
  by_cases t3 : (65536 : Int) < n5
  · go_wp2
    go_ret
    exact ⟨rfl, s1⟩
  have l1 : n1 ≤ 65536 := by omega
  have l4 : n4 ≤ 65536 := by omega
  have l5 : n5 ≤ 65536 := by omega
  clear t1 t2 t3
  have hlt1 : w.heap.size < w1.heap.size := by have := s1'.size; simp at this; omega
  have qc : ∀ i x, [Value.int .u8 q0, .int .u8 q1, .int .u8 q2, .int .u8 q3][i]? = some x → w1.cell? ⟨w.heap.size, i, none⟩ = some x := by
    intro i x hx
    have := news_new w [Value.int .u8 q0, .int .u8 q1, .int .u8 q2, .int .u8 q3] 31 i x hx
    rw [Addr.add_lit, Nat.zero_add] at this
    rw [s1'.cell (a := ⟨w.heap.size, i, none⟩) (by simp)]
    exact this
  have g0 := qc 0 _ rfl
  have g1 := qc 1 _ rfl
  have g2 := qc 2 _ rfl
  have g3 := qc 3 _ rfl
  clear qc
  go_wp2_with fail
  refine (hex18_any _ _).mono ?_
  rintro e w2 ⟨rfl, rfl⟩
  rw [X0.out]
  go_wp2_with fail
  refine (hex18_any _ _).mono ?_
  rintro e w2 ⟨rfl, rfl⟩
  rw [X1.out]
  go_wp2_with fail
  refine (hex18_any _ _).mono ?_
  rintro e w2 ⟨rfl, rfl⟩
  rw [X2.out]
  go_wp2_with fail
  refine (hex18_any _ _).mono ?_
  rintro e w2 ⟨rfl, rfl⟩
  rw [X3.out]
  go_wp2
  go_ret
  exact ⟨rfl, s1⟩

/-- The law, whatever comes. -/
theorem brk_walk (kd b q0 q1 q2 q3 : Int) (a1 a4 a5 : Option Addr) (n1 n4 n5 c1 c4 c5 : Nat) (f1 f4 f5 : Nat → Int) (w : World) (I : BrkIn w a1 a4 a5 n1 n4 n5 c1 c4 c5 f1 f4 f5) (k0 : 0 ≤ kd) (k255 : kd ≤ 255) (b0 : 0 ≤ b) (b255 : b ≤ 255) :
    Calls Try.prog 4 #[.slice a1 n1 c1, .int .u8 kd, .int .u8 b, .agg #[.int .u8 q0, .int .u8 q1, .int .u8 q2, .int .u8 q3], .slice a4 n4 c4, .slice a5 n5 c5] w fun e w' => e = .returned (.bool true) ∧ w.Since w.heap.size w' := by
  rcases (show kd % 6 = 0 ∨ kd % 6 = 1 ∨ kd % 6 = 2 ∨ kd % 6 = 3 ∨ kd % 6 = 4 ∨ kd % 6 = 5 by omega) with h | h | h | h | h | h
  · exact brk0 kd b q0 q1 q2 q3 a1 a4 a5 n1 n4 n5 c1 c4 c5 f1 f4 f5 w I k0 k255 h
  · exact brk1 kd b q0 q1 q2 q3 a1 a4 a5 n1 n4 n5 c1 c4 c5 f1 f4 f5 w I k0 k255 h b0 b255
  · exact brk2 kd b q0 q1 q2 q3 a1 a4 a5 n1 n4 n5 c1 c4 c5 f1 f4 f5 w I k0 k255 h
  · exact brk3 kd b q0 q1 q2 q3 a1 a4 a5 n1 n4 n5 c1 c4 c5 f1 f4 f5 w I k0 k255 h
  · cases x0 : hexB q0
    · exact brk4a kd b q0 q1 q2 q3 a1 a4 a5 n1 n4 n5 c1 c4 c5 f1 f4 f5 w I k0 k255 h x0 (fun hx => by rw [x0] at hx; cases hx.1)
    · cases x1 : hexB q1
      · exact brk4b kd b q0 q1 q2 q3 a1 a4 a5 n1 n4 n5 c1 c4 c5 f1 f4 f5 w I k0 k255 h x0 x1 (fun hx => by rw [x1] at hx; cases hx.2.1)
      · cases x2 : hexB q2
        · exact brk4c kd b q0 q1 q2 q3 a1 a4 a5 n1 n4 n5 c1 c4 c5 f1 f4 f5 w I k0 k255 h x0 x1 x2 (fun hx => by rw [x2] at hx; cases hx.2.2.1)
        · cases x3 : hexB q3
          · exact brk4d kd b q0 q1 q2 q3 a1 a4 a5 n1 n4 n5 c1 c4 c5 f1 f4 f5 w I k0 k255 h x0 x1 x2 x3 (fun hx => by rw [x3] at hx; cases hx.2.2.2)
          · exact brk4e kd b q0 q1 q2 q3 a1 a4 a5 n1 n4 n5 c1 c4 c5 f1 f4 f5 w I k0 k255 h x0 x1 x2 x3
  · exact brk5 kd b q0 q1 q2 q3 a1 a4 a5 n1 n4 n5 c1 c4 c5 f1 f4 f5 w I k0 k255 h
end Go.Proofs.Qxb6600039a
