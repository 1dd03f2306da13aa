/-
  FnQuotedReadsOnlyItsSpan, walked.
-/
import Derived.Test.Qxb6600039aNew
namespace Go.Proofs.Qxb6600039a
open Go.RowKit Sc

/-- data[lo:hi] of an array at the head of a block reads as it should. -/
theorem IsInts.part {w : World} {k : IntKind} {b n : Nat} {f : Nat → Int} (h : IsInts w k (some ⟨b, 0, none⟩) n f) (lo m : Nat) (hm : lo + m ≤ n) {a' : Option Addr} (ha : 0 < m → a' = some ⟨b, lo, none⟩) : IsInts w k a' m (fun i => f (lo + i)) := by
  intro hpos
  obtain ⟨b', off, e, hb, hc⟩ := h (by omega)
  simp only [Option.some.injEq, Addr.mk.injEq] at e
  obtain ⟨rfl, rfl, _⟩ := e
  exact ⟨b, lo, ha hpos, hb, fun i hi => by have := hc (lo + i) (by omega); rwa [Nat.zero_add] at this⟩

/-- The bytes f 0 .. f (n-1) as cells. -/
def byts (n : Nat) (f : Nat → Int) : List Value := (List.range n).map (fun i => Value.int .u8 (f i))
theorem byts_len (n : Nat) (f : Nat → Int) : (byts n f).length = n := by simp [byts]
theorem byts_get (n : Nat) (f : Nat → Int) {i : Nat} (h : i < n) : (byts n f)[i]? = some (.int .u8 (f i)) := by simp [byts, h]
theorem byts_one (n : Nat) (f : Nat → Int) : ∀ u ∈ byts n f, u.oneCell' = true := by
  intro u hu
  obtain ⟨_, _, rfl⟩ := List.mem_map.1 hu
  rfl
theorem byts_app (n m : Nat) (f g : Nat → Int) : byts n f ++ byts m g = byts (n + m) (fun i => if i < n then f i else g (i - n)) := by
  apply List.ext_getElem?
  intro i
  by_cases h1 : i < n
  · rw [List.getElem?_append_left (by rw [byts_len]; exact h1), byts_get n f h1, byts_get _ _ (by omega)]; simp [h1]
  · rw [List.getElem?_append_right (by rw [byts_len]; omega), byts_len]
    by_cases h2 : i < n + m
    · rw [byts_get m g (by omega), byts_get _ _ h2]; simp [h1]
    · rw [List.getElem?_eq_none (by rw [byts_len]; omega), List.getElem?_eq_none (by rw [byts_len]; omega)]

/-- The cells that a readable slice brings to an append. -/
theorem IsInts.news {w : World} {a : Option Addr} {n : Nat} {f : Nat → Int} (h : IsInts w .u8 a n f) : ∀ ad, a = some ad → ∀ j u, (byts n f)[j]? = some u → w.cell? (ad.add j) = some u := by
  intro ad had j u hu
  have hj : j < n := by have := (List.getElem?_eq_some_iff.1 hu).1; rwa [byts_len] at this
  obtain ⟨b, off, ea, _, hc⟩ := h (by omega)
  rw [had] at ea
  obtain rfl := Option.some.inj ea
  rw [Addr.add_lit, hc j hj]
  rw [byts_get n f hj] at hu
  exact hu

theorem own_isInts {w : World} {base : Nat} {e : TypeId} {a : Option Addr} {n c : Nat} {f : Nat → Int} (h : w.ownsRow base e 1 (.slice a n c) n (byts n f)) : IsInts w .u8 a n f := by
  intro hn
  rcases h.2 with ⟨_, rfl⟩ | ⟨g, cap, cur, hv, _, hh, _⟩
  · omega
  · simp only [Value.slice.injEq] at hv
    obtain ⟨rfl, _, rfl⟩ := hv
    refine ⟨g, 0, rfl, (Array.getElem?_eq_some_iff.1 hh).1, fun i hi => ?_⟩
    have := h.cells (g := g) rfl i _ (byts_get n f hi)
    rwa [Addr.add_lit] at this

set_option maxHeartbeats 4000000 in
set_option maxRecDepth 100000 in
theorem span_walk (a1 a2 : Option Addr) (n m c1 c2 : Nat) (at_ : Int) (d f : Nat → Int) (w : World) (m1 : n ≤ maxLen) (m2 : m ≤ maxLen) (z1 : a1 = none → n = 0 ∧ c1 = 0) (z2 : a2 = none → m = 0 ∧ c2 = 0)
    (h1 : IsInts w .u8 a1 n d) (h2 : IsInts w .u8 a2 m f) :
    Calls Try.prog 5 #[.slice a1 n c1, .int .i64 at_, .slice a2 m c2] w fun e w' => e = .returned (.bool true) ∧ w.Since w.heap.size w' := by
  go_enter Try.func5, Try.ntmps5
  go_wp2_with fail
  refine (zzSpan _ _ _ _ _ _ _ _ m1 m2).mono ?_
  rintro e w' ⟨⟨b, rfl⟩, rfl⟩
  cases b
  · go_wp2
    go_ret
    exact ⟨rfl, World.Since.refl _ _⟩
  by_cases t1 : (4096 : Int) < n
  · go_wp2
    go_ret
    exact ⟨rfl, World.Since.refl _ _⟩
  by_cases t2 : (65536 : Int) < m
  · go_wp2
    go_ret
    exact ⟨rfl, World.Since.refl _ _⟩
  by_cases t3 : at_ < 0
  · go_wp2
    go_ret
    exact ⟨rfl, World.Since.refl _ _⟩
  by_cases t4 : (n : Int) < at_
  · go_wp2
    go_ret
    exact ⟨rfl, World.Since.refl _ _⟩
  obtain ⟨a, rfl⟩ := Int.eq_ofNat_of_zero_le (show 0 ≤ at_ by omega)
  have hn : n ≤ 4096 := by omega
  have hm : m ≤ 65536 := by omega
  have han : a ≤ n := by omega
  clear t1 t2 m1 m2
  go_wp2_with fail
  refine (clone_any w a1 n c1 d (by omega) z1 h1).mono ?_
  rintro e w1 ⟨b1, rfl, hb1, k1, s1⟩
  have h2' := h2.since s1 (Nat.le_refl _)
  clear h1 z1 h2
  go_wp2_with fail
  refine (new_any w1 b1 n n a).mono ?_
  rintro e w2 ⟨rfl, rfl⟩
  go_wp2_with fail
  refine (quoted_new w1 b1 n n a d (by omega) (Nat.le_refl _) han k1).mono ?_
  have hsh := quo_shift d n a han
  have hle : ∀ j p, quo d n a = some (j, p) → a < j ∧ j < n ∧ d a = 34 ∧ d j = 34 := fun j p h => quo_le h
  cases hR : quo d n a with
  | none =>
    rintro e w2 ⟨rfl, s2, q1⟩
    rw [hR] at hsh
    have HS : Hid (quo (fun k => d (a + k)) (n - a) 0 = none) := hsh
    clear hsh hle hR
    go_wp2_with fail
    refine (at_any w2 w1.heap.size a q1).mono ?_
    rintro e w3 ⟨rfl, rfl⟩
    have ss2 := Since.step s1 s2
    have k1' := k1.since s2 (Nat.le_refl _)
    clear s1 s2 q1 k1 h2'
    rcases hb1 with ⟨rfl, rfl⟩ | ⟨B, rfl⟩
    · obtain rfl : a = 0 := by omega
      go_wp2_with fail
      refine (new_zero w2 none 0 0).mono ?_
      rintro e w3 ⟨rfl, rfl⟩
      go_wp2_with fail
      refine (quoted_new w2 none 0 0 0 (fun k => d (0 + k)) (by omega) (Nat.le_refl _) (Nat.zero_le _) (fun h => absurd h (by omega))).mono ?_
      rw [HS.out]
      rintro e w3 ⟨rfl, s3, q2⟩
      go_wp2_with fail
      refine (at_any w3 w2.heap.size _ q2).mono ?_
      rintro e w4 ⟨rfl, rfl⟩
      go_wp2
      go_ret
      exact ⟨rfl, Since.step ss2 s3⟩
    · by_cases e : n = a
      · subst e
        rw [Nat.sub_self] at HS
        go_wp2_with fail
        refine (new_zero w2 (some ⟨B, 0, none⟩) 0 0).mono ?_
        rintro e w3 ⟨rfl, rfl⟩
        go_wp2_with fail
        refine (quoted_new w2 (some ⟨B, 0, none⟩) 0 0 0 (fun k => d (n + k)) (by omega) (Nat.le_refl _) (Nat.zero_le _) (fun h => absurd h (by omega))).mono ?_
        rw [HS.out]
        rintro e w3 ⟨rfl, s3, q2⟩
        go_wp2_with fail
        refine (at_any w3 w2.heap.size _ q2).mono ?_
        rintro e w4 ⟨rfl, rfl⟩
        go_wp2
        go_ret
        exact ⟨rfl, Since.step ss2 s3⟩
      · have e' : ¬ n = a := e
        go_wp2_with fail
        refine (new_zero w2 (some ⟨B, a, none⟩) (n - a) (n - a)).mono ?_
        rintro e w3 ⟨rfl, rfl⟩
        go_wp2_with fail
        refine (quoted_new w2 (some ⟨B, a, none⟩) (n - a) (n - a) 0 (fun k => d (a + k)) (by omega) (Nat.le_refl _) (Nat.zero_le _) (k1'.part a (n - a) (by omega) (fun _ => rfl))).mono ?_
        rw [HS.out]
        rintro e w3 ⟨rfl, s3, q2⟩
        go_wp2_with fail
        refine (at_any w3 w2.heap.size _ q2).mono ?_
        rintro e w4 ⟨rfl, rfl⟩
        go_wp2
        go_ret
        exact ⟨rfl, Since.step ss2 s3⟩
  | some x =>
    obtain ⟨j, p⟩ := x
    obtain ⟨l1, l2, l3, l4⟩ := hle j p hR
    rw [hR] at hsh
    have HS : Hid (quo (fun k => d (a + k)) (n - a) 0 = some (j - a, p)) := hsh
    have HR : Hid (quo d n a = some (j, p)) := hR
    clear hsh hle hR
    obtain ⟨B, rfl⟩ : ∃ B, b1 = some ⟨B, 0, none⟩ := by
      rcases hb1 with ⟨_, h0⟩ | h
      · omega
      · exact h
    clear hb1
    rintro e w2 ⟨at1, ct1, rfl, kt1, s2, q1⟩
    have ss2 := Since.step s1 s2
    have k2 := k1.since s2 (Nat.le_refl _)
    have h2s := h2'.since s2 (Nat.le_refl _)
    clear s1 s2 k1 h2'
    go_wp2_with fail
    refine (at_any w2 w1.heap.size _ q1).mono ?_
    rintro e w3 ⟨rfl, rfl⟩
    clear q1
    have e' : ¬ n = a := by omega
    go_wp2_with fail
    refine (new_zero w2 (some ⟨B, a, none⟩) (n - a) (n - a)).mono ?_
    rintro e w3 ⟨rfl, rfl⟩
    go_wp2_with fail
    refine (quoted_new w2 (some ⟨B, a, none⟩) (n - a) (n - a) 0 (fun k => d (a + k)) (by omega) (Nat.le_refl _) (Nat.zero_le _) (k2.part a (n - a) (by omega) (fun _ => rfl))).mono ?_
    rw [HS.out]
    rintro e w3 ⟨at2, ct2, rfl, kt2, s3, q2⟩
    have ss3 := Since.step ss2 s3
    have k3 := k2.since s3 (Nat.le_refl _)
    have h3s := h2s.since s3 (Nat.le_refl _)
    have kt1' := kt1.since s3 (Nat.le_refl _)
    rw [show j - a - (0 + 1) = j - (a + 1) from by omega] at kt2 ⊢
    replace kt2 := kt2.congr (f' := fun k => d (a + 1 + k)) (fun i _ => by show d (a + (0 + 1 + i)) = d (a + 1 + i); rw [show a + (0 + 1 + i) = a + 1 + i from by omega])
    clear ss2 s3 k2 h2s kt1 HS
    go_wp2_with fail
    refine (at_any w3 w2.heap.size _ q2).mono ?_
    rintro e w4 ⟨rfl, rfl⟩
    clear q2
    have tp : (p != p) = false := by simp
    have t5 : ((((j - a : Nat) : Int) + 1 + (a : Int)) != ((j : Int) + 1)) = false := by simp; omega
    have g1 : w3.cell? ⟨B, a, none⟩ = some (.int .u8 (d a)) := by obtain ⟨b', o', e, _, hc⟩ := k3 (by omega); simp only [Option.some.injEq, Addr.mk.injEq] at e; obtain ⟨rfl, rfl, _⟩ := e; have := hc a (by omega); rwa [Nat.zero_add] at this
    have g2 : w3.cell? ⟨B, j, none⟩ = some (.int .u8 (d j)) := by obtain ⟨b', o', e, _, hc⟩ := k3 (by omega); simp only [Option.some.injEq, Addr.mk.injEq] at e; obtain ⟨rfl, rfl, _⟩ := e; have := hc j (by omega); rwa [Nat.zero_add] at this
    have t6 : (d a != 34) = false := by simp [l3]
    have t7 : (d j != 34) = false := by simp [l4]
    have ne1 : ¬ n = a + 1 := by omega
    have L3 : Hid (d a = 34 ∧ d j = 34) := ⟨l3, l4⟩
    clear l3 l4
    go_wp2_with fail
    refine (equal_same w3 at1 at2 (j - (a + 1)) ct1 ct2 (fun k => d (a + 1 + k)) (by omega) kt1' kt2).mono ?_
    rintro e w4 ⟨rfl, m4, rfl⟩
    go_wp2_with fail
    refine (equal_same (w3.drewN m4) at1 (some ⟨B, a + 1, none⟩) (j - (a + 1)) ct1 (n - (a + 1)) (fun k => d (a + 1 + k)) (by omega) kt1' (IsInts.part (w := w3.drewN m4) k3 (a + 1) (j - (a + 1)) (by omega) (fun _ => rfl))).mono ?_
    rintro e w4 ⟨rfl, m5, rfl⟩
    clear g1 g2 t5 t6 t7 kt2 ne1
    obtain ⟨w4, hw4⟩ : ∃ w4, w4 = (w3.drewN m4).drewN m5 := ⟨_, rfl⟩
    have ss4 : w.Since w.heap.size w4 := by rw [hw4]; exact Since.drewN (Since.drewN ss3 m4) m5
    have k4 : IsInts w4 .u8 (some ⟨B, 0, none⟩) n d := by rw [hw4]; exact k3
    have h4s : IsInts w4 .u8 a2 m f := by rw [hw4]; exact h3s
    have kt4 : IsInts w4 .u8 at1 (j - (a + 1)) (fun k => d (a + 1 + k)) := by rw [hw4]; exact kt1'
    rw [← hw4]
    clear hw4 ss3 k3 h3s kt1'
    obtain ⟨inf, hi, hz0, hz1', hz2'⟩ := info_parts Try.info5
    have kz : (j : Int) + 1 ≤ (n : Int) := by omega
    go_wp2_with (at_make; refine wpList_make_own _ rfl _ _ 22 rfl w4.heap.size 5 inf (.int .u8 0) 1 Try.underlying22 hi hz0 hz1' _ _ _ (j + 1 + m) rfl rfl (by omega) ?b1 ?b2 ?b3 ?_)
    case b1 => rw [hz2']; omega
    case b2 => unfold maxLen; omega
    case b3 => exact Nat.le_refl _
    intro w5 hown5 hg5
    have s5 : w4.Since w4.heap.size w5 := (World.Since.refl _ _).grown hg5 (Nat.le_refl _) (fun k hk => by cases hk)
    have k5 := k4.since s5 (Nat.le_refl _)
    have h5s := h4s.since s5 (Nat.le_refl _)
    have kp := (k5.part 0 (j + 1) (by omega) (a' := some ⟨B, 0, none⟩) (fun _ => rfl)).congr (f' := d) (fun i _ => by rw [Nat.zero_add])
    have hnw := kp.news
    go_wp2_with (at_builtin; refine wpList_append_fits_any _ rfl (.tmp 131) (.tmp 134) 22 rfl w4.heap.size 5 inf 1 Try.underlying22 hi hz1' w4.heap.size 0 (j + 1 + m) [] rfl hown5 (some ⟨B, 0, none⟩) (j + 1) n (byts (j + 1) d) rfl (by rw [byts_len]; omega) (fun h => by cases h) hnw (byts_one _ _) (by omega) ?_)
    intro w6 hown6 hg6
    have s6 : w4.Since w4.heap.size w6 := s5.grown hg6 s5.size (fun k hk => by cases hk; exact Nat.le_refl _)
    have h6s := h4s.since s6 (Nat.le_refl _)
    have hnw2 := h6s.news
    clear hnw kp k5 h5s hown5 hg5 hg6 s5
    go_wp2_with (at_builtin; refine wpList_append_fits_any _ rfl (.tmp 136) (.tmp 137) 22 rfl w4.heap.size 5 inf 1 Try.underlying22 hi hz1' w4.heap.size (j + 1) (j + 1 + m) (byts (j + 1) d) rfl hown6 a2 m c2 (byts m f) rfl (by rw [byts_len]; omega) z2 hnw2 (byts_one _ _) (Nat.le_refl _) ?_)
    intro w7 hown7 hg7
    rw [byts_app] at hown7
    have s7 : w4.Since w4.heap.size w7 := s6.grown hg7 s6.size (fun k hk => by cases hk; exact Nat.le_refl _)
    have k7 := own_isInts hown7
    have kd7 := k4.since s7 (Nat.le_refl _)
    have kt7 := kt4.since s7 (Nat.le_refl _)
    have ss7 := Since.step ss4 s7
    clear hnw2 h6s hown6 hown7 hg7 s6 s7 h4s kt4 k4 ss4 z2
    go_wp2_with fail
    refine (new_any w7 (some ⟨w4.heap.size, 0, none⟩) (j + 1 + m) (j + 1 + m) a).mono ?_
    rintro e w8 ⟨rfl, rfl⟩
    go_wp2_with fail
    refine (quoted_new w7 (some ⟨w4.heap.size, 0, none⟩) (j + 1 + m) (j + 1 + m) a _ (by omega) (Nat.le_refl _) (by omega) k7).mono ?_
    rw [quo_agree (d' := fun i => if i < j + 1 then d i else f (i - (j + 1))) (n' := j + 1 + m) HR.out (fun k hk => if_pos (by omega)) (by omega)]
    rintro e w8 ⟨at3, ct3, rfl, kt3, s8, q3⟩
    replace kt3 := kt3.congr (f' := fun k => d (a + 1 + k)) (fun i hi' => if_pos (by omega))
    have kd8 := kd7.since s8 (Nat.le_refl _)
    have kt8 := kt7.since s8 (Nat.le_refl _)
    have ss8 := Since.step ss7 s8
    clear s8 kd7 kt7 ss7 k7
    go_wp2_with fail
    refine (equal_same w8 at3 at1 (j - (a + 1)) ct3 ct1 (fun k => d (a + 1 + k)) (by omega) kt3 kt8).mono ?_
    rintro e w9 ⟨rfl, m9, rfl⟩
    go_wp2_with fail
    refine (at_any (w8.drewN m9) w7.heap.size _ q3).mono ?_
    rintro e w10 ⟨rfl, rfl⟩
    have t8 : ((j : Int) + 1 != (j : Int) + 1) = false := by simp
    have ss9 : w.Since w.heap.size (w8.drewN m9) := Since.drewN ss8 m9
    have kd9 : IsInts (w8.drewN m9) .u8 (some ⟨B, 0, none⟩) n d := kd8
    clear ss8 kd8 kt3 kt8 q3
    go_wp2
    clear t8
    go_loopg [22] (j + 1 - a) (fun g s22 wr => ∃ k : Nat, a ≤ k ∧ k ≤ j + 1 ∧ g = j + 1 - k ∧ s22 = .int .i64 k ∧ w.Since w.heap.size wr ∧ IsInts wr .u8 (some ⟨B, 0, none⟩) n d)
    case atStart => exact ⟨a, Nat.le_refl _, by omega, rfl, rfl, ss9, kd9⟩
    case round =>
      clear ss9 kd9
      obtain ⟨k, hk1, hk2, hgk, rfl, sr, kr⟩ := hrel
      by_cases hk3 : k < j + 1
      · have hkz : (k : Int) < (j : Int) + 1 := by omega
        have hkn : (k : Int) ≤ (n : Int) := by omega
        have kk := (kr.part 0 k (by omega) (a' := some ⟨B, 0, none⟩) (fun _ => rfl)).congr (f' := d) (fun i _ => by rw [Nat.zero_add])
        go_wp2_with fail
        refine (new_any wr (some ⟨B, 0, none⟩) k n a).mono ?_
        rintro e w11 ⟨rfl, rfl⟩
        go_wp2_with fail
        refine (quoted_new wr (some ⟨B, 0, none⟩) k n a d (by omega) (by omega) hk1 kk).mono ?_
        rw [quo_cut HR.out (by omega)]
        rintro e w11 ⟨rfl, s11, q11⟩
        have ss11 := Since.step sr s11
        have k11 := kr.since s11 (Nat.le_refl _)
        clear kk sr kr s11 q11
        go_wp2
        go_roundg (j + 1 - (k + 1))
        case measure => go_light; omega
        case rel =>
          go_light
          exact ⟨k + 1, by omega, by omega, rfl, by go_num, ss11, k11⟩
      · go_wp2
        go_ret
        exact ⟨rfl, sr⟩
end Go.Proofs.Qxb6600039a
