/-
  FnNumberRefusesDanglingPart, walked: shape 2.
-/
import Derived.Test.Qxb6600039aDang0
import Derived.Deep.CutBlock
namespace Go.Proofs.Qxb6600039a
open Go.RowKit Sc

set_option maxRecDepth 100000 in
set_option maxHeartbeats 3200000 in
theorem dang2 (ng hb : Bool) (u sh b : Int) (a2 a3 a7 : Option Addr) (n2 n3 n7 c2 c3 c7 : Nat) (f2 f3 f7 : Nat → Int) (w : World) (I : DangIn w u a2 a3 a7 n2 n3 n7 c2 c3 c7 f2 f3 f7) (s0 : 0 ≤ sh) (s255 : sh ≤ 255) (hk : sh % 4 = 2) (hbb : hb = true → dig b = false ∧ (b == 43) = false ∧ (b == 45) = false) :
    Calls Try.prog 7 #[.bool ng, .int .u64 u, .slice a2 n2 c2, .slice a3 n3 c3, .int .u8 sh, .int .u8 b, .bool hb, .slice a7 n7 c7] w fun e w' => e = .returned (.bool true) ∧ w.Since w.heap.size w' := by
  obtain ⟨inf, hi, hz0, hz1, hz2⟩ := info_parts Try.info5
  have J : Hid (DangIn w u a2 a3 a7 n2 n3 n7 c2 c3 c7 f2 f3 f7) := I
  have HB : Hid (hb = true → dig b = false ∧ (b == 43) = false ∧ (b == 45) = false) := hbb
  have m2 := I.m2
  have m3 := I.m3
  have m7 := I.m7
  clear I hbb
  go_enter Try.func7, Try.ntmps7
  go_wp2_with fail
  refine (zzNumber _ _ _ _ _ _ _ _ _ _ _ _ _ _ _ (by unfold maxLen; omega) (by unfold maxLen; omega) (by unfold maxLen; omega)).mono ?_
  rintro e w1 ⟨⟨r, rfl⟩, s1⟩
  cases r
  · go_wp2
    go_ret
    exact ⟨rfl, s1⟩
  go_upto_if 41 with fail
  go_cut [16, 17] from 20 (fun s16 s17 wx => s16 = .bool false ∧ s17 = .int .u8 2 ∧ wx = w1)
  case first =>
    cases hb
    · go_wp2
      go_meet
      exact ⟨rfl, by first | rfl | rw [hk], rfl⟩
    · have hq := HB.out rfl
      obtain ⟨q1, q2, q3⟩ := hq
      go_wp2_with fail
      refine (jdig_any b _).mono ?_
      rw [q1]
      rintro e w' ⟨rfl, rfl⟩
      go_wp2
      go_meet
      exact ⟨rfl, by first | rfl | rw [hk], rfl⟩
  obtain ⟨rfl, rfl, rfl⟩ := hcut
  go_wp2_with (at_make; refine wpList_make_own _ rfl _ _ 22 rfl wc.heap.size 5 inf (.int .u8 0) 1 Try.underlying22 hi hz0 hz1 _ _ _ (32 + n2 + n3 + n7) rfl rfl (by omega) ?b1 ?b2 ?b3 ?_)
  case b1 => rw [hz2]; omega
  case b2 => unfold maxLen; omega
  case b3 => exact Nat.le_refl _
  intro w4 o4' hg4
  obtain ⟨B, hB⟩ : ∃ B, B = wc.heap.size := ⟨_, rfl⟩
  have b0 : Bt w B (32 + n2 + n3 + n7) 0 [] w4 := ⟨by rw [hB]; exact o4', s1.grown hg4 s1.size (fun k hk => by cases hk), by rw [hB]; exact s1.size⟩
  rw [← hB]
  clear hg4 o4' hB s1
  go_upto_if 79 with fail
  go_cut [18] from 20 (fun s18 wx => ∃ (K : Nat) (sg : List Int), Sg sg ∧ (sg = [] → ng = false) ∧ K ≤ 1 ∧ s18 = .slice (some ⟨B, 0, none⟩) K (32 + n2 + n3 + n7) ∧ Bt w B (32 + n2 + n3 + n7) K sg wx)
  case first =>
    cases ng
    · go_wp2
      go_meet
      exact ⟨0, [], .inl rfl, (by simp), Nat.zero_le _, rfl, b0⟩
    · skip
      go_wp2_with (at_builtin; refine wpList_append_fits _ rfl (.tmp 80) (.tmp 81) 22 rfl B 5 inf 1 Try.underlying22 hi hz1 B (0) (32 + n2 + n3 + n7) (bl ([])) rfl (b0.own.alloc _) ⟨w4.heap.size, 0, none⟩ 1 1 (bl [45]) rfl rfl (news_new w4 (bl [45]) 5) (bl_one _) (by omega) ?_)
      intro w5 o_ g_
      have b1 : Bt w B (32 + n2 + n3 + n7) (0 + 1) (([]) ++ [45]) w5 := b0.fit [45] o_ g_
      clear o_ g_ b0
      go_wp2
      go_meet
      exact ⟨1, [45], .inr rfl, (by simp), Nat.le_refl _, rfl, b1⟩
  obtain ⟨K, sg, hsg, hsn, hK, rfl, b1⟩ := hcut
  have HSG : Hid (Sg sg ∧ (sg = [] → ng = false)) := ⟨hsg, hsn⟩
  clear hsg hsn b0
  go_upto_if 84 with fail
  go_cut [18] from 20 (fun s18 wx => ∃ (K2 : Nat) (ip : List Int), Ip ip ∧ K2 ≤ K + 20 + n2 ∧ s18 = .slice (some ⟨B, 0, none⟩) K2 (32 + n2 + n3 + n7) ∧ Bt w B (32 + n2 + n3 + n7) K2 (sg ++ ip) wx)
  case first =>
    go_wp2_with fail
    refine (itoa_any u _ J.out.u0 J.out.u1).mono ?_
    rintro e w6 ⟨ai, ci, out, rfl, hit, hnn, iE, s6⟩
    have HIT : Hid (Itoa u out) := hit
    have hol : out.length ≤ 20 := by
      rcases hit with ⟨_, rfl⟩ | ⟨_, _, h, _⟩
      · simp
      · exact h
    have b2 := b1.on s6
    have hcE := IsInts.cellsL iE
    rw [range_by2] at hcE
    have zE : ai = none → out.length = 0 ∧ ci = 0 := fun h => (hnn h).elim
    clear hit iE b1 s6 hnn
    obtain ⟨N, hN⟩ : ∃ N, N = out.length := ⟨_, rfl⟩
    rw [← hN] at hol zE ⊢
    have HN : Hid (N = out.length) := hN
    clear hN
    go_wp2_with (at_builtin; refine wpList_append_fits_any _ rfl (.tmp 85) (.tmp 87) 22 rfl B 5 inf 1 Try.underlying22 hi hz1 B K (32 + n2 + n3 + n7) (bl sg) rfl b2.own ai N ci (bl out) rfl (by rw [bl_len, ← HN.out, Nat.mul_one]) zE hcE (bl_one _) (by omega) ?_)
    intro w7 o_ g_
    have b3 : Bt w B (32 + n2 + n3 + n7) (K + N) (sg ++ out) w7 := b2.fits out o_ g_
    clear o_ g_ hcE zE b2 HN
    by_cases hu : u = 0
    · have t1 : (u != 0) = false := by simp [hu]
      clear hu
      go_wp2
      go_meet
      refine ⟨K + N, out, ?_, by omega, rfl, b3⟩
      have := ip_of HIT.out (more := []) (by simp) (fun _ => rfl)
      rwa [List.append_nil] at this
    · have t1 : (u != 0) = true := by simp [hu]
      have HU : Hid (¬ u = 0) := hu
      clear hu
      go_wp2_with fail
      refine (app_digits w w7 B (K + N) (32 + n2 + n3 + n7) (sg ++ out) a2 n2 c2 f2 m2 J.out.h2 J.out.by2 b3.since b3.low b3.lt (by omega) b3.own).mono ?_
      rintro e w8 ⟨ds, hdl, hda, rfl, o8, s8⟩
      have b4 : Bt w B (32 + n2 + n3 + n7) (K + N + n2) (sg ++ out ++ ds) w8 := b3.digits o8 s8
      clear o8 s8 b3 hdl
      go_wp2
      go_meet
      exact ⟨K + N + n2, out ++ ds, ip_of HIT.out hda (fun h => (HU.out h).elim), by omega, rfl, by rw [← List.append_assoc]; exact b4⟩
  obtain ⟨K2, ip, hip, hK2, rfl, b2⟩ := hcut
  have HIP : Hid (Ip ip) := hip
  clear hip b1
  obtain ⟨l0, hl0⟩ : ∃ l0, l0 = sg ++ ip := ⟨_, rfl⟩
  rw [← hl0] at b2
  have HL0 : Hid (l0 = sg ++ ip) := hl0
  clear hl0
  go_upto_block 1 with fail
  go_cut [18] from 20 (fun s18 wx => ∃ (K3 : Nat) (l : List Int), Hid (∀ t, Lays hb b t → Refused (by_ (l ++ t)) (l ++ t).length) ∧ K3 ≤ K2 + 3 + n3 ∧ s18 = .slice (some ⟨B, 0, none⟩) K3 (32 + n2 + n3 + n7) ∧ Bt w B (32 + n2 + n3 + n7) K3 l wx)
  case first =>
    go_upto_if 105 with fail
    go_cut [18] from 20 (fun s18 wx => ∃ (K3 : Nat) (F : List Int), FrX F ∧ K3 ≤ K2 + 1 + n3 ∧ s18 = .slice (some ⟨B, 0, none⟩) K3 (32 + n2 + n3 + n7) ∧ Bt w B (32 + n2 + n3 + n7) K3 (l0 ++ F) wx)
    case first =>
      go_wp2_with (at_builtin; refine wpList_append_fits _ rfl (.tmp 106) (.tmp 107) 22 rfl B 5 inf 1 Try.underlying22 hi hz1 B K2 (32 + n2 + n3 + n7) (bl l0) rfl (b2.own.alloc _) ⟨wc.heap.size, 0, none⟩ 1 1 (bl [46]) rfl rfl (news_new wc (bl [46]) 5) (bl_one _) (by omega) ?_)
      · intro w5 o_ g_
        have b3 : Bt w B (32 + n2 + n3 + n7) (K2 + 1) (l0 ++ [46]) w5 := b2.fit [46] o_ g_
        clear o_ g_ b2
        go_wp2_with fail
        refine (app_digits w w5 B (K2 + 1) (32 + n2 + n3 + n7) (l0 ++ [46]) a3 n3 c3 f3 m3 J.out.h3 J.out.by3 b3.since b3.low b3.lt (by omega) b3.own).mono ?_
        rintro e w8 ⟨ds, hdl, hda, rfl, o8, s8⟩
        have b4 : Bt w B (32 + n2 + n3 + n7) (K2 + 1 + n3) (l0 ++ [46] ++ ds) w8 := b3.digits o8 s8
        clear o8 s8 b3 hdl
        go_wp2
        go_meet
        exact ⟨K2 + 1 + n3, 46 :: ds, .inr ⟨ds, rfl, hda⟩, by omega, rfl, by rw [List.append_assoc] at b4; exact b4⟩
      · go_meet
        exact ⟨K2, [], .inl rfl, by omega, rfl, by rw [List.append_nil]; exact b2⟩
    obtain ⟨K3, F, hF, hK3, rfl, b3⟩ := hcut
    have HF : Hid (FrX F) := hF
    clear hF b2
    obtain ⟨l1, hl1⟩ : ∃ l1, l1 = l0 ++ F := ⟨_, rfl⟩
    rw [← hl1] at b3
    have HL1 : Hid (l1 = sg ++ ip ++ F) := by rw [hl1, HL0.out]; exact rfl
    clear hl1 HL0
    go_wp2_with fail
    refine (exp_letter _ _).mono ?_
    rintro e w' ⟨⟨ec, rfl, hec⟩, rfl⟩
    have HE : Hid (ec = 101 ∨ ec = 69) := hec
    clear hec
    go_wp2_with (at_builtin; refine wpList_append_fits _ rfl (.tmp 112) (.tmp 117) 22 rfl B 5 inf 1 Try.underlying22 hi hz1 B (K3) (32 + n2 + n3 + n7) (bl (l1)) rfl (b3.own.alloc _) ⟨wc.heap.size, 0, none⟩ 1 1 (bl [ec]) rfl rfl (news_new wc (bl [ec]) 5) (bl_one _) (by omega) ?_)
    intro w5 o_ g_
    have b4 : Bt w B (32 + n2 + n3 + n7) (K3 + 1) ((l1) ++ [ec]) w5 := b3.fit [ec] o_ g_
    clear o_ g_ b3
    go_wp2
    go_meet
    exact ⟨K3 + 1, l1 ++ [ec], fun t ht => by rw [HL1.out]; exact ref2x HSG.out.1 HIP.out HE.out HF.out (ht.tl2 HB.out), by omega, rfl, b4⟩
  obtain ⟨K9, l, HL, hK9', rfl, b9⟩ := hcut
  have hK9 : K9 ≤ 24 + n2 + n3 := by omega
  clear b2 hK9' HL0 HSG HIP
  clear HB
  have i7 := J.out.h7.since b9.since (Nat.le_refl _)
  go_upto_if 130 with fail
  go_cut [18] from 20 (fun s18 wx => ∃ (K5 : Nat) (t : List Int), Lays hb b t ∧ K5 ≤ K9 + 1 + n7 ∧ s18 = .slice (some ⟨B, 0, none⟩) K5 (32 + n2 + n3 + n7) ∧ Bt w B (32 + n2 + n3 + n7) K5 (l ++ t) wx)
  case first =>
    cases hb
    · go_wp2
      go_meet
      exact ⟨K9, [], .inl ⟨rfl, rfl⟩, by omega, rfl, by rw [List.append_nil]; exact b9⟩
    · skip
      go_wp2_with (at_builtin; refine wpList_append_fits _ rfl (.tmp 131) (.tmp 133) 22 rfl B 5 inf 1 Try.underlying22 hi hz1 B (K9) (32 + n2 + n3 + n7) (bl (l)) rfl (b9.own.alloc _) ⟨wc.heap.size, 0, none⟩ 1 1 (bl [b]) rfl rfl (news_new wc (bl [b]) 5) (bl_one _) (by omega) ?_)
      intro w5 o_ g_
      have b5 : Bt w B (32 + n2 + n3 + n7) (K9 + 1) ((l) ++ [b]) w5 := b9.fit [b] o_ g_
      clear o_ g_ b9
      have hc7 := IsInts.cellsL (J.out.h7.since b5.since (Nat.le_refl _))
      have z7 := J.out.z7
      go_wp2_with (at_builtin; refine wpList_append_fits_any _ rfl (.tmp 135) (.tmp 136) 22 rfl B 5 inf 1 Try.underlying22 hi hz1 B (K9 + 1) (32 + n2 + n3 + n7) (bl (l ++ [b])) rfl b5.own a7 n7 c7 (bl ((List.range n7).map f7)) rfl (by rw [bl_len]; simp) z7 hc7 (bl_one _) (by omega) ?_)
      intro w7 o_ g_
      have b6 : Bt w B (32 + n2 + n3 + n7) (K9 + 1 + n7) (l ++ [b] ++ (List.range n7).map f7) w7 := b5.fits _ o_ g_
      clear o_ g_ hc7 z7 b5
      go_wp2
      go_meet
      exact ⟨K9 + 1 + n7, b :: (List.range n7).map f7, .inr ⟨rfl, _, rfl⟩, by omega, rfl, by rw [List.append_assoc] at b6; exact b6⟩
  obtain ⟨K5, t, hT, hK5, rfl, b5⟩ := hcut
  have hq := HL.out t hT
  obtain ⟨hlen, kI⟩ := owned_isInts b5.own
  clear hT HL b9 i7
  have HQ : Hid (K5 = (l ++ t).length ∧ IsInts wc .u8 (some ⟨B, 0, none⟩) K5 (by_ (l ++ t)) ∧ Refused (by_ (l ++ t)) (l ++ t).length) := ⟨hlen, kI, hq⟩
  clear hlen kI hq
  go_wp2_with fail
  refine (new_zero wc (some ⟨B, 0, none⟩) K5 (32 + n2 + n3 + n7)).mono ?_
  rintro e wn ⟨rfl, rfl⟩
  go_wp2_with fail
  refine (number_new wc B K5 (32 + n2 + n3 + n7) (l ++ t) (by omega) HQ.out.1 HQ.out.2.1 HQ.out.2.2).mono ?_
  rintro e wq ⟨rfl, rfl⟩
  have sfin := b5.since.alloc b5.since.size (scnr (some ⟨B, 0, none⟩) K5 (32 + n2 + n3 + n7) 0)
  go_wp2
  go_ret
  exact ⟨rfl, sfin⟩
end Go.Proofs.Qxb6600039a
