/-
  FnLaddersShape, walked.
-/
import Derived.Test.Qxb6600184aZZLad
namespace Go.Proofs.Qxb6600184a
open Go.RowKit Lad

theorem mem_step6 {f : Nat → Int} {k j : Nat} (h0 : 0 ≤ f k) : (if j = (f k).toNat then Value.bool true else .bool (memB f k j)) = .bool (memB f (k + 1) j) := by
  rw [memB_succ]
  by_cases e : j = (f k).toNat
  · rw [if_pos e]
    have : (f k == (j : Int)) = true := by rw [beq_iff_eq]; omega
    simp [this]
  · rw [if_neg e]
    have : (f k == (j : Int)) = false := by rw [beq_eq_false_iff_ne]; omega
    simp [this]

set_option maxHeartbeats 4000000 in
set_option maxRecDepth 100000 in
theorem shape_walk (a0 : Int) (a1 a2 a3 a4 : Option Addr) (n1 n2 n3 n4 c1 c2 c3 c4 : Nat) (f1 f2 f3 f4 : Nat → Int) (w : World)
    (m1 : n1 ≤ maxLen) (m2 : n2 ≤ maxLen) (m3 : n3 ≤ maxLen) (m4 : n4 ≤ maxLen)
    (z1 : a1 = none → n1 = 0 ∧ c1 = 0) (z2 : a2 = none → n2 = 0 ∧ c2 = 0) (z3 : a3 = none → n3 = 0 ∧ c3 = 0) (z4 : a4 = none → n4 = 0 ∧ c4 = 0)
    (h1 : IsInts w .i64 a1 n1 f1) (h2 : IsInts w .i64 a2 n2 f2) (h3 : IsInts w .i64 a3 n3 f3) (h4 : IsInts w .i64 a4 n4 f4) :
    Calls Try.prog 6 #[.int .i64 a0, .slice a1 n1 c1, .slice a2 n2 c2, .slice a3 n3 c3, .slice a4 n4 c4] w fun e w' => e = .returned (.bool true) ∧ w.Since w.heap.size w' := by
  go_enter Try.func6, Try.ntmps6
  go_wp2_with fail
  refine (zzShape _ _ _ _ _ _ _ _ _ _ _ _ _ _ m1 m2 m3 m4).mono ?_
  rintro e w' ⟨⟨b, rfl⟩, rfl⟩
  cases b
  · go_wp2
    go_ret
    exact ⟨rfl, World.Since.refl _ _⟩
  go_wp2_with fail
  refine (fits_any _ _ _ _ _ _ _ _ _ _ _ _ _ f1 f2 f4 _ m1 m2 m3 m4 h1 h2 h4).mono ?_
  rintro e w1 ⟨b, rfl, hfit, hs1⟩
  cases b
  · clear hfit
    go_wp2
    go_ret
    exact ⟨rfl, hs1⟩
  have fit := hfit rfl
  clear hfit
  obtain rfl := fit.same
  obtain ⟨v, rfl⟩ := Int.eq_ofNat_of_zero_le fit.v0
  have l1 := fit.l1
  have l2 := fit.l2
  have l4 := fit.l4
  go_wp2_with fail
  refine (copyInts_any w1 a1 n1 c1 f1 (by omega) z1 (h1.since hs1 (Nat.le_refl _))).mono ?_
  rintro e w2 ⟨b1, d1, rfl, k1, hs2⟩
  have s2 := Since.step hs1 hs2
  have h2' := (h2.since s2 (Nat.le_refl _))
  clear hs1 hs2 h1 z1
  go_wp2_with fail
  refine (copyInts_any w2 a2 n3 c2 f2 (by omega) z2 h2').mono ?_
  rintro e w3 ⟨b2, d2, rfl, k2, hs3⟩
  have s3 := Since.step s2 hs3
  have k1' := k1.since hs3 (Nat.le_refl _)
  have h3' := (h3.since s3 (Nat.le_refl _))
  clear s2 hs3 h2 z2 h2' k1 h3
  go_wp2_with fail
  refine (copyInt64s_any w3 a3 n3 c3 f3 (by omega) z3 h3').mono ?_
  rintro e w4 ⟨b3, d3, rfl, k3, hs4⟩
  have s4 := Since.step s3 hs4
  have k1 := k1'.since hs4 (Nat.le_refl _)
  have k2' := k2.since hs4 (Nat.le_refl _)
  have h4' := (h4.since s4 (Nat.le_refl _))
  clear s3 hs4 h3' z3 k1' k2 h4
  go_wp2_with fail
  refine (copyInts_any w4 a4 n4 c4 f4 (by omega) z4 h4').mono ?_
  rintro e w5 ⟨b4, d4, rfl, k4, hs5⟩
  have s5 := Since.step s4 hs5
  have k1' := k1.since hs5 (Nat.le_refl _)
  have k2 := k2'.since hs5 (Nat.le_refl _)
  have k3' := k3.since hs5 (Nat.le_refl _)
  clear s4 hs5 h4' z4 k1 k2' k3
  go_wp2_with fail
  refine (zzlad v b1 b2 b3 b4 n1 n3 n4 d1 d2 d3 d4 f1 f2 f3 f4 w5 fit k1' k2 k3' k4).mono ?_
  rintro e w6 ⟨ua, ra, rc, rfl, hU, hR, hs6⟩
  have s6 := Since.step s5 hs6
  have k1 := k1'.since hs6 (Nat.le_refl _)
  have k2' := k2.since hs6 (Nat.le_refl _)
  have k3 := k3'.since hs6 (Nat.le_refl _)
  have k4' := k4.since hs6 (Nat.le_refl _)
  clear s5 hs6 k1' k2 k3' k4
  have ok := gr_ok (f3 := f3) fit
  obtain ⟨g, hg⟩ : ∃ g, g = gr n1 n4 f1 f2 f3 f4 := ⟨_, rfl⟩
  have hgm : Hid (g.m = n1 - 1) := by rw [hg]; exact rfl
  have hga : Hid (∀ s, s < n1 → f1 s = g.a s) := by
    intro s hs; have := f1_nonneg fit s hs; rw [hg]; show f1 s = ((f1 s).toNat : Int); omega
  have hgM : Hid (∀ p, p < n3 → g.M p = memB f4 n4 (f2 p)) := by intro p _; rw [hg]; rfl
  have hgJ : Hid (∀ p, p < n3 → g.J p = f3 p) := by intro p _; rw [hg]; rfl
  rw [← hg] at ok hU hR ⊢
  clear hg
  have hv1 := fit.v1
  have hmk := run_make_row' (P := Try.prog) 45 4 (.bool false) 1 Try.underlying45 Try.info4 rfl .i64 .i64 v (by omega) (by omega)
  go_wp2
  clear hmk
  go_loopg [15] n4 (fun gh i wr => ∃ k : Nat, k ≤ n4 ∧ gh = n4 - k ∧ i = .int .i64 k ∧ w6.Since w6.heap.size wr ∧ wr.heap.size = w6.heap.size + 1 ∧ wr.rowIs w6.heap.size 4 v (fun u => .bool (memB f4 k u)))
  case atStart => exact ⟨0, Nat.zero_le _, rfl, rfl, (World.Since.refl _ _).alloc (Nat.le_refl _) _, by simp, (World.rowIs_made w6 _ v 4).congr (fun j _ => rfl)⟩
  case round =>
    obtain ⟨k, hk, hgk, rfl, hS, hsz, hI⟩ := hrel
    by_cases hlt : k < n4
    · obtain ⟨b, off, rfl, hb, hc⟩ := k4' (by omega)
      have hz : (k : Int) < (n4 : Int) := by omega
      obtain ⟨p0, p1⟩ := fit.mems k hlt
      have q0 : wr.cell? ⟨b, off + k, none⟩ = some (.int .i64 (f4 k)) := by rw [hS.cell (a := ⟨b, off + k, none⟩) hb]; exact hc k hlt
      have q1 : wr.cell? ⟨w6.heap.size, (f4 k).toNat, none⟩ = some (.bool (memB f4 k ((f4 k).toNat : Int))) := hI.cell (by omega)
      have q2 : wr.frozen? ⟨w6.heap.size, (f4 k).toNat, none⟩ = false := hI.frozen _
      clear hc
      go_wp2
      go_roundg (n4 - (k + 1))
      case measure => go_light; omega
      case rel =>
        go_light
        exact ⟨k + 1, by omega, rfl, by go_num, hS.setCell (Nat.le_refl _) _, by simpa using hsz, (hI.set _ _).congr (fun j _ => mem_step6 p0)⟩
    · have e : k = n4 := by omega
      subst e
      clear hlt hgk k4' hk
      have t2 : ((n3 : Int) != (n3 : Int)) = false := by simp
      have hcn3 := cnt_le_self g n3
      have hrn3 := rg_length g n3

      go_wp2
      clear t2 hsz
      go_loopg [16, 17, 18, 19] (n1 - 1) (fun gh s16 s17 s18 i wr => ∃ s : Nat, s ≤ n1 - 1 ∧ gh = n1 - 1 - s ∧ i = .int .i64 s ∧ s16 = .int .i64 (mp g (g.a s)) ∧ s17 = .int .i64 (fs g (g.a s)) ∧ s18 = .int .i64 ((cnt g (g.a s) : Int) - 1) ∧ w6.Since w6.heap.size wr ∧ wr.rowIs w6.heap.size 4 v (fun u => .bool (memB f4 k u)))
      case atStart => exact ⟨0, Nat.zero_le _, rfl, rfl, by rw [ok.zero]; rfl, by rw [ok.zero]; rfl, by rw [ok.zero]; rfl, hS, hI⟩
      case round =>
        clear hS hI
        obtain ⟨s, hs, hgs, rfl, rfl, rfl, rfl, hS, hI⟩ := hrel
        have hpos := fit.pos
        by_cases hlt : s < n1 - 1
        · obtain ⟨bb1, o1, rfl, hb1, hc1⟩ := k1 (by omega)
          have hz : (s : Int) + 1 < (n1 : Int) := by omega
          have hz3 : (s : Int) < (n1 : Int) := by omega
          have hsm : s < g.m := by rw [hgm.out]; omega
          have hE : g.a (s + 1) ≤ n3 := by have := f1_top fit (s + 1) (by omega); rw [hga.out (s + 1) (by omega)] at this; omega
          have hAE : g.a s ≤ g.a (s + 1) := ok.mono s hsm
          have q0 : wr.cell? ⟨bb1, o1 + s, none⟩ = some (.int .i64 (g.a s)) := by rw [hS.cell (a := ⟨bb1, o1 + s, none⟩) hb1, hc1 s (by omega), hga.out s (by omega)]
          have hc1' : w6.cell? ⟨bb1, o1 + (s + 1), none⟩ = some (.int .i64 (g.a (s + 1))) := by rw [hc1 (s + 1) (by omega), hga.out (s + 1) (by omega)]
          clear hc1
          go_wp2
          clear q0
          go_loopg [16, 17, 20, 21, 22] (g.a (s + 1) - g.a s) (fun gh s16 s17 s20 s21 pl wr => ∃ (i : Nat) (sn : Bool), g.a s ≤ i ∧ i ≤ g.a (s + 1) ∧ gh = g.a (s + 1) - i ∧ pl = .int .i64 i ∧ s16 = .int .i64 (mp g i) ∧ s17 = .int .i64 (fs g i) ∧ s20 = .int .i64 (topAt g (g.a s) i) ∧ s21 = .bool sn ∧ Hid (sn = decide (cnt g (g.a s) < cnt g i)) ∧ w6.Since w6.heap.size wr ∧ wr.rowIs w6.heap.size 4 v (fun u => .bool (memB f4 k u)))
          case atStart => exact ⟨g.a s, false, Nat.le_refl _, hAE, rfl, rfl, rfl, rfl, by rw [topAt_start], rfl, by show false = _; simp, hS, hI⟩
          case round =>
            clear hS hI
            obtain ⟨i, sn, hi1, hi2, hgi, rfl, rfl, rfl, rfl, rfl, hsn, hS, hI⟩ := hrel
            have q1 : wr.cell? ⟨bb1, o1 + (s + 1), none⟩ = some (.int .i64 (g.a (s + 1))) := by rw [hS.cell (a := ⟨bb1, o1 + (s + 1), none⟩) hb1]; exact hc1'
            have hle := cnt_le (g := g) hi1
            by_cases hlt2 : i < g.a (s + 1)
            · have hip : i < n3 := by omega
              have hiz : (i : Int) < (n3 : Int) := by omega
              obtain ⟨ub, uo, rfl, hub, huc⟩ := hU (by omega)
              obtain ⟨bb2, o2, rfl, hb2, hc2⟩ := k2' (by omega)
              have q2 : wr.cell? ⟨bb2, o2 + i, none⟩ = some (.int .i64 (f2 i)) := by rw [hS.cell (a := ⟨bb2, o2 + i, none⟩) hb2]; exact hc2 i hip
              obtain ⟨i0, i1⟩ := fit.items i hip
              have q4 : wr.cell? ⟨w6.heap.size, (f2 i).toNat, none⟩ = some (.bool (g.M i)) := by
                rw [hI.cell (by omega), hgM.out i hip]; simp only [Int.toNat_of_nonneg i0]
              have q5 : wr.cell? ⟨ub, uo + i, none⟩ = some (.int .i64 (topAt g (g.a s) (i + 1))) := by rw [hS.cell (a := ⟨ub, uo + i, none⟩) hub, ← want_top ok hsm hi1 hlt2]; exact huc i hip
              have hcni := cnt_le (g := g) (show i + 1 ≤ n3 by omega)
              have T0 : -1 ≤ topAt g (g.a s) (i + 1) := (top_bound g _ _).1
              have T1 : topAt g (g.a s) (i + 1) < (cnt g n3 : Int) := by unfold topAt; split <;> omega
              have T2 : topAt g (g.a s) i ≤ topAt g (g.a s) (i + 1) := top_mono _ _ hi1
              have hmpl := mp_le g i
              have hfsl := fs_le g i
              clear huc hc2
              cases hM : g.M i
              · rw [hM] at q4
                have ec := cnt_not hM
                have ef := fs_not hM
                have em : mp g (i + 1) = mp g i := by simp [mp, hM]
                have E : Hid (cnt g (i + 1) = cnt g i ∧ fs g (i + 1) = fs g i ∧ mp g (i + 1) = mp g i) := ⟨ec, ef, em⟩
                by_cases hsn1 : cnt g (g.a s) < cnt g i
                · obtain rfl : sn = true := by rw [hsn.out]; simp [hsn1]
                  clear ec ef em hM
                  go_wp2
                  go_roundg (g.a (s + 1) - (i + 1))
                  case measure => go_light; omega
                  case rel =>
                    go_light
                    exact ⟨i + 1, true, by omega, by omega, rfl, by go_num, by rw [E.out.2.2], by rw [E.out.2.1], rfl, rfl, by show true = _; rw [E.out.1]; simp [hsn1], hS, hI⟩
                · obtain rfl : sn = false := by rw [hsn.out]; simp [hsn1]
                  have T3 : (topAt g (g.a s) (i + 1) != -1) = false := by unfold topAt; rw [if_neg (by omega)]; rfl
                  clear ec ef em hM
                  go_wp2
                  go_roundg (g.a (s + 1) - (i + 1))
                  case measure => go_light; omega
                  case rel =>
                    go_light
                    exact ⟨i + 1, false, by omega, by omega, rfl, by go_num, by rw [E.out.2.2], by rw [E.out.2.1], rfl, rfl, by show false = _; rw [E.out.1]; simp [hsn1], hS, hI⟩
              · rw [hM] at q4
                have hseen := seen_mem ok hsm hi1 hlt2 hM
                have T4 : 0 ≤ topAt g (g.a s) (i + 1) := (top_nonneg _ _).2 hseen
                have em : mp g (i + 1) = mp g i + 1 := by simp [mp, hM]
                by_cases hsn1 : cnt g (g.a s) < cnt g i
                · obtain rfl : sn = true := by rw [hsn.out]; simp [hsn1]
                  have E : Hid (fs g (i + 1) = fs g i ∧ mp g (i + 1) = mp g i + 1) := ⟨fs_later ok hsm hi1 hlt2 hsn1, em⟩
                  clear em hM
                  go_wp2
                  go_roundg (g.a (s + 1) - (i + 1))
                  case measure => go_light; omega
                  case rel =>
                    go_light
                    exact ⟨i + 1, true, by omega, by omega, rfl, by go_num, by rw [E.out.2]; go_num, by rw [E.out.1], rfl, rfl, by show true = _; simp [hseen], hS, hI⟩
                · obtain rfl : sn = false := by rw [hsn.out]; simp [hsn1]
                  have E : Hid (fs g (i + 1) = fs g i + 1 ∧ mp g (i + 1) = mp g i + 1) := ⟨(fs_first ok hsm hi1 hlt2 hM hsn1).1, em⟩
                  have T5 : (cnt g (g.a s) : Int) - 1 < topAt g (g.a s) (i + 1) := by unfold topAt; rw [if_pos hseen]; omega
                  clear em hM
                  go_wp2
                  go_roundg (g.a (s + 1) - (i + 1))
                  case measure => go_light; omega
                  case rel =>
                    go_light
                    exact ⟨i + 1, true, by omega, by omega, rfl, by go_num, by rw [E.out.2]; go_num, by rw [E.out.1]; go_num, rfl, rfl, by show true = _; simp [hseen], hS, hI⟩
            · have e : i = g.a (s + 1) := by omega
              by_cases hcc : cnt g (g.a s) < cnt g i
              · have T6 : Hid (topAt g (g.a s) i = (cnt g i : Int) - 1) := by show topAt g (g.a s) i = (cnt g i : Int) - 1; unfold topAt; rw [if_pos hcc]
                have T7 : (cnt g (g.a s) : Int) - 1 < topAt g (g.a s) i := by rw [T6.out]; omega
                have He : Hid (i = g.a (s + 1)) := e
                clear e
                go_wp2
                go_roundg (n1 - 1 - (s + 1))
                case measure => go_light; omega
                case rel =>
                  go_light
                  have e := He.out
                  exact ⟨s + 1, by omega, rfl, by go_num, by rw [e], by rw [e], by rw [T6.out, e], hS, hI⟩
              · have T7 : topAt g (g.a s) i = -1 := by unfold topAt; rw [if_neg hcc]
                have T8 : topAt g (g.a s) i ≤ (cnt g (g.a s) : Int) - 1 := by rw [T7]; omega
                have He : Hid (i = g.a (s + 1) ∧ cnt g i = cnt g (g.a s)) := ⟨e, by omega⟩
                clear e T7
                go_wp2
                go_roundg (n1 - 1 - (s + 1))
                case measure => go_light; omega
                case rel =>
                  go_light
                  obtain ⟨e, e2⟩ := He.out
                  exact ⟨s + 1, by omega, rfl, by go_num, by rw [e], by rw [e], by rw [← e, e2], hS, hI⟩
        · have e : s = n1 - 1 := by omega
          have ea : g.a s = n3 := by
            have := hga.out s (by omega); rw [e, fit.last] at this; rw [e]; omega
          rw [ea]
          have hmp := cnt_le_mp g n3
          have t1 : ((cnt g n3 : Int) - ((rg g n3).length : Int) != (fs g n3 : Int)) = false := by
            have : ((fs g n3 : Nat) : Int) = (cnt g n3 : Int) - ((rg g n3).length : Int) := by unfold fs; omega
            rw [this]; simp
          have t3 : decide (mp g n3 < cnt g n3) = false := by simp; omega
          clear ea e
          go_wp2
          clear t1 t3
          go_loopg [24] (rg g n3).length (fun gh i wx => ∃ j : Nat, j ≤ (rg g n3).length ∧ gh = (rg g n3).length - j ∧ i = .int .i64 j ∧ w6.Since w6.heap.size wx)
          case atStart => exact ⟨0, Nat.zero_le _, rfl, rfl, hS⟩
          case round =>
            clear hS hI
            obtain ⟨j, hj, hgj, rfl, hS⟩ := hrel
            by_cases hltj : j < (rg g n3).length
            · obtain ⟨rb, ro, rfl, hrb, hrc⟩ := hR (by omega)
              have hjz : (j : Int) < ((rg g n3).length : Int) := by omega
              obtain ⟨x0, x1⟩ := rg_getD g n3 j hltj
              have hrc0 := hrc j hltj
              obtain ⟨x, hx⟩ : ∃ x, x = (rg g n3).getD j 0 := ⟨_, rfl⟩
              have q0 : wr.cell? ⟨rb, ro + j, none⟩ = some (.int .i64 x) := by rw [hS.cell (a := ⟨rb, ro + j, none⟩) hrb, hx]; exact hrc0
              rw [← hx] at x0 x1
              have Hx : Hid (x = (rg g n3).getD j 0) := hx
              clear hrc0 hx
              by_cases hj0 : 0 < j
              · obtain ⟨j', rfl⟩ : ∃ j', j = j' + 1 := ⟨j - 1, by omega⟩
                obtain ⟨y, hy⟩ : ∃ y, y = (rg g n3).getD j' 0 := ⟨_, rfl⟩
                have hyx : y < x := by rw [Hx.out, hy]; exact rg_lt g n3 j' hltj
                have q1 : wr.cell? ⟨rb, ro + j', none⟩ = some (.int .i64 y) := by rw [hS.cell (a := ⟨rb, ro + j', none⟩) hrb, hy]; exact hrc j' (by omega)
                have hj'z : (j' : Int) < ((rg g n3).length : Int) := by omega
                clear hrc hy
                go_wp2
                go_quiet (fail)
                go_wp2
                go_roundg ((rg g n3).length - (j' + 1 + 1))
                case measure => go_light; omega
                case rel =>
                  go_light
                  exact ⟨j' + 1 + 1, by omega, rfl, by go_num, Since.drewN hS _⟩
              · have hd0 : decide ((0 : Int) < (j : Int)) = false := by simp; omega
                clear hrc
                go_wp2
                go_quiet (fail)
                go_wp2
                go_roundg ((rg g n3).length - (j + 1))
                case measure => go_light; omega
                case rel =>
                  go_light
                  exact ⟨j + 1, by omega, rfl, by go_num, Since.drewN hS _⟩
            · go_wp2
              go_ret
              exact ⟨rfl, Since.step s6 hS⟩
end Go.Proofs.Qxb6600184a
