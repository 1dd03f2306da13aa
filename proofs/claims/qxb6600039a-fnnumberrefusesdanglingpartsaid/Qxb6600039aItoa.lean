/-
  jsb1Itoa, walked.
-/
import Derived.Test.Qxb6600039aAppDig
namespace Go.Proofs.Qxb6600039a
open Go.RowKit Sc

/-- Digits, and a leading zero only where it stands alone. -/
def Itoa (u : Int) (out : List Int) : Prop := (u = 0 ∧ out = [48]) ∨ (u ≠ 0 ∧ 0 < out.length ∧ out.length ≤ 20 ∧ (∀ x ∈ out, dig x = true) ∧ by_ out 0 ≠ 48)

/-- The digits so far: those from i on; the rest of the number is u. -/
def Dgs (F : Nat → Int) (u : Int) (i : Nat) : Prop := 0 ≤ u ∧ u < 10 ^ i ∧ i ≤ 20 ∧ (∀ k, i ≤ k → k < 20 → dig (F k) = true) ∧ (u = 0 → i < 20 ∧ F i ≠ 48)

theorem Dgs.step {F : Nat → Int} {u : Int} {i : Nat} (h : Dgs F u (i + 1)) (hu : 0 < u) : Dgs (fun j => if j = i then 48 + u % 10 else F j) (u / 10) i := by
  obtain ⟨h0, h1, h2, h3, _⟩ := h
  have hp : (10 : Int) ^ (i + 1) = 10 ^ i * 10 := by rw [Int.pow_succ]
  refine ⟨by omega, by omega, by omega, fun k k1 k2 => ?_, fun hz => ⟨by omega, ?_⟩⟩
  · by_cases e : k = i
    · simp only [e, if_true]
      simp [dig]; omega
    · simp only [e, if_false]
      exact h3 k (by omega) k2
  · simp only [if_true]
    omega

theorem Dgs.pos {F : Nat → Int} {u : Int} {i : Nat} (h : Dgs F u i) (hu : 0 < u) : 0 < i := by
  rcases Nat.eq_zero_or_pos i with e | e
  · subst e
    have := h.2.1
    simp at this
    omega
  · exact e

theorem Dgs.done {F : Nat → Int} {u0 : Int} {i : Nat} (h : Dgs F 0 i) (h0 : u0 ≠ 0) : Itoa u0 ((List.range (20 - i)).map (fun k => F (i + k))) := by
  obtain ⟨_, _, h2, h3, h4⟩ := h
  obtain ⟨h5, h6⟩ := h4 rfl
  refine .inr ⟨h0, by simp; omega, by simp, fun x hx => ?_, ?_⟩
  · obtain ⟨k, hk, rfl⟩ := List.mem_map.1 hx
    have := List.mem_range.1 hk
    exact h3 _ (by omega) (by omega)
  · have : by_ ((List.range (20 - i)).map (fun k => F (i + k))) 0 = F i := by
      have h7 : 0 < 20 - i := by omega
      simp [by_, List.getD, h7]
    rw [this]
    exact h6

set_option maxHeartbeats 1600000 in
set_option maxRecDepth 100000 in
theorem itoa_zero (w : World) : Calls Try.prog 23 #[.int .u64 0] w fun e w' => ∃ (a' : Option Addr) (c' : Nat) (out : List Int), e = .returned (.slice a' out.length c') ∧ Itoa 0 out ∧ (a' = none → False) ∧ IsInts w' .u8 a' out.length (by_ out) ∧ w.Since w.heap.size w' := by
  go_enter Try.func23, Try.ntmps23
  go_wp2
  go_ret
  refine ⟨_, _, [48], rfl, .inl ⟨rfl, rfl⟩, by simp, fun _ => ⟨w.heap.size, 0, rfl, by show w.heap.size < (w.heap.push _).size; rw [Array.size_push]; omega, fun i hi => ?_⟩, (World.Since.refl _ _).alloc (Nat.le_refl _) _⟩
  have := news_new w (bl [48]) 5 i (.int .u8 (by_ [48] i)) (bl_get [48] hi)
  rwa [Addr.add_lit] at this

def zero20 : Array Value := #[Value.int IntKind.u8 0, Value.int IntKind.u8 0, Value.int IntKind.u8 0, Value.int IntKind.u8 0, Value.int IntKind.u8 0, Value.int IntKind.u8 0, Value.int IntKind.u8 0, Value.int IntKind.u8 0, Value.int IntKind.u8 0, Value.int IntKind.u8 0, Value.int IntKind.u8 0, Value.int IntKind.u8 0, Value.int IntKind.u8 0, Value.int IntKind.u8 0, Value.int IntKind.u8 0, Value.int IntKind.u8 0, Value.int IntKind.u8 0, Value.int IntKind.u8 0, Value.int IntKind.u8 0, Value.int IntKind.u8 0]
theorem zero20_get (i : Nat) (h : i < zero20.size) : zero20[i]? = some (.int .u8 0) := by
  have e : zero20 = Array.replicate 20 (.int .u8 0) := rfl
  rw [e] at h ⊢
  rw [Array.getElem?_replicate, if_pos (by simpa using h)]

set_option maxHeartbeats 1600000 in
set_option maxRecDepth 100000 in
theorem itoa_pos (u0 : Int) (w : World) (h0 : 0 < u0) (h1 : u0 ≤ 18446744073709551615) : Calls Try.prog 23 #[.int .u64 u0] w fun e w' => ∃ (a' : Option Addr) (c' : Nat) (out : List Int), e = .returned (.slice a' out.length c') ∧ Itoa u0 out ∧ (a' = none → False) ∧ IsInts w' .u8 a' out.length (by_ out) ∧ w.Since w.heap.size w' := by
  obtain ⟨inf, hi, hz0, hz1, hz2⟩ := info_parts Try.info5
  have hne : (u0 == 0) = false := by simp; omega
  go_enter Try.func23, Try.ntmps23
  go_wp2
  clear hne
  have s1 : w.Since w.heap.size (w.alloc (.cells zero20 47)) := (World.Since.refl _ _).alloc (Nat.le_refl _) _
  have r1 : (w.alloc (.cells zero20 47)).rowIs w.heap.size 47 20 (fun _ => .int .u8 0) := World.rowIs_alloc w zero20 47 _ zero20_get
  go_loopg [0, 4] 20 (fun g s0 s4 wr => ∃ (u : Int) (i : Nat) (F : Nat → Int), g = i ∧ s0 = .int .u64 u ∧ s4 = .int .i64 i ∧ wr.rowIs w.heap.size 47 20 (fun k => .int .u8 (F k)) ∧ Hid (Dgs F u i) ∧ 0 ≤ u ∧ u ≤ 18446744073709551615 ∧ i ≤ 20 ∧ w.Since w.heap.size wr)
  case atStart => exact ⟨u0, 20, fun _ => 0, rfl, rfl, rfl, r1, ⟨by omega, by simp; omega, Nat.le_refl _, fun k k1 k2 => by omega, fun h => by omega⟩, by omega, h1, Nat.le_refl _, s1⟩
  case round =>
    clear s1 r1
    obtain ⟨u, i, F, hg, rfl, rfl, hr, hD, hu0, hu1, hi20, hS⟩ := hrel
    by_cases hu : 0 < u
    · have hpos := hD.out.pos hu
      obtain ⟨j, rfl⟩ : ∃ j, i = j + 1 := ⟨i - 1, by omega⟩
      have hD' : Hid (Dgs (fun k => if k = j then 48 + u % 10 else F k) (u / 10) j) := hD.out.step hu
      have g0 := hr.cell (i := j) (by omega)
      have fz := hr.frozen j
      have hz : (j : Int) < 20 := by omega
      have q1 : u / 10 ≤ 18446744073709551615 := by omega
      have q0 : 0 ≤ u / 10 := by omega
      have hr' := (hr.set j (.int .u8 (48 + u % 10))).congr (g := fun k => .int .u8 (if k = j then 48 + u % 10 else F k)) (fun k _ => by by_cases e : k = j <;> simp [e])
      have hS' := hS.setCell (a := ⟨w.heap.size, j, none⟩) (Nat.le_refl _) (.int .u8 (48 + u % 10))
      clear hD hS hr
      go_wp2
      go_roundg j
      case measure => go_light; omega
      case rel => go_light; exact ⟨u / 10, j, _, rfl, rfl, by go_num, hr', hD', q0, q1, by omega, hS'⟩
    · obtain rfl : u = 0 := by omega
      have hD' : Hid (i < 20 ∧ Itoa u0 ((List.range (20 - i)).map (fun k => F (i + k)))) := ⟨(hD.out.2.2.2.2 rfl).1, hD.out.done (by omega)⟩
      have hlt : i < 20 := hD'.out.1
      have k1 : (i : Int) ≤ 20 := by omega
      clear hD
      go_wp2_with (at_make; refine wpList_make_own _ rfl _ _ 22 rfl wr.heap.size 5 inf (.int .u8 0) 1 Try.underlying22 hi hz0 hz1 _ _ _ (20 - i) rfl rfl (by omega) ?b1 ?b2 ?b3 ?_)
      case b1 => omega
      case b2 => unfold maxLen; omega
      intro w4 o4' hg4
      have o4 : w4.ownsRow wr.heap.size 5 1 (.slice (some ⟨wr.heap.size, 0, none⟩) 0 (20 - i)) 0 (bl []) := o4'
      have s4 : wr.Since wr.heap.size w4 := (World.Since.refl _ _).grown hg4 (Nat.le_refl _) (fun k hk => by cases hk)
      clear hg4 o4'
      have hbl : w.heap.size < wr.heap.size := hr.lt
      have iF : IsInts w4 .u8 (some ⟨w.heap.size, i, none⟩) (20 - i) (fun k => F (i + k)) := fun _ => ⟨w.heap.size, i, rfl, Nat.lt_of_lt_of_le hbl s4.size, fun k hk => by
        rw [s4.cell (a := ⟨w.heap.size, i + k, none⟩) hbl]
        exact hr.cell (by omega)⟩
      have hcs := iF.cellsL
      clear iF hr
      go_wp2_with (at_builtin; refine wpList_append_fits_any _ rfl (.tmp 24) (.tmp 26) 22 rfl wr.heap.size 5 inf 1 Try.underlying22 hi hz1 wr.heap.size 0 (20 - i) (bl []) rfl o4 (some ⟨w.heap.size, i, none⟩) (20 - i) (20 - i) (bl ((List.range (20 - i)).map fun k => F (i + k))) rfl (by rw [bl_len]; simp) (fun h => by cases h) hcs (bl_one _) (by omega) ?_)
      intro w5 o5' hg
      have o5 : w5.ownsRow wr.heap.size 5 1 (.slice (some ⟨wr.heap.size, 0, none⟩) (20 - i) (20 - i)) (20 - i) (bl ((List.range (20 - i)).map fun k => F (i + k))) := by
        have := o5'
        rw [← bl_app, List.nil_append] at this
        exact this
      have s5 : wr.Since wr.heap.size w5 := s4.grown hg s4.size (fun k hk => by cases hk; exact Nat.le_refl _)
      clear o5' hg o4 s4 hcs
      go_wp2
      go_ret
      refine ⟨some ⟨wr.heap.size, 0, none⟩, 20 - i, (List.range (20 - i)).map fun k => F (i + k), by simp, hD'.out.2, by simp, ?_, Since.step hS s5⟩
      have hl : ((List.range (20 - i)).map fun k => F (i + k)).length = 20 - i := by simp
      rw [hl]
      exact (owned_isInts o5).2

theorem itoa_any (u0 : Int) (w : World) (h0 : 0 ≤ u0) (h1 : u0 ≤ 18446744073709551615) : Calls Try.prog 23 #[.int .u64 u0] w fun e w' => ∃ (a' : Option Addr) (c' : Nat) (out : List Int), e = .returned (.slice a' out.length c') ∧ Itoa u0 out ∧ (a' = none → False) ∧ IsInts w' .u8 a' out.length (by_ out) ∧ w.Since w.heap.size w' := by
  by_cases h : u0 = 0
  · subst h
    exact itoa_zero w
  · exact itoa_pos u0 w (by omega) h1
end Go.Proofs.Qxb6600039a
