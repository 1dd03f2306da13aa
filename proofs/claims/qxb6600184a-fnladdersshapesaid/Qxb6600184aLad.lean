/-
  (*conflictGraph).ladders, walked: it computes Lad's cnt, want and rg.
-/
import Derived.Test.Qxb6600184aLadInv
namespace Go.Proofs.Qxb6600184a
open Go.RowKit Lad

set_option maxHeartbeats 1600000 in
set_option maxRecDepth 100000 in
theorem lad_walk (v : Nat) (ia a1 a2 a3 a4 : Option Addr) (B n1 n2 n4 ic c1 c2 c3 c4 : Nat) (f1 f2 f3 f4 : Nat → Int) (w : World) (g : Gr)
    (fit : Fit v n1 n2 n2 n4 f1 f2 f4) (ok : Ok g) (hgm : Hid (g.m = n1 - 1)) (hga : Hid (∀ s, s < n1 → f1 s = g.a s)) (hgM : Hid (∀ p, p < n2 → g.M p = memB f4 n4 (f2 p))) (hgJ : Hid (∀ p, p < n2 → g.J p = f3 p)) (hB : B < w.heap.size)
    (g0 : w.cell? ⟨B, 0, none⟩ = some (.slice ia v ic)) (g8 : w.cell? ⟨B, 8, none⟩ = some (.slice a1 n1 c1)) (g9 : w.cell? ⟨B, 9, none⟩ = some (.slice a2 n2 c2)) (g12 : w.cell? ⟨B, 12, none⟩ = some (.slice a3 n2 c3))
    (h1 : IsInts w .i64 a1 n1 f1) (h2 : IsInts w .i64 a2 n2 f2) (h3 : IsInts w .i64 a3 n2 f3) (h4 : IsInts w .i64 a4 n4 f4) :
    Calls Try.prog 28 #[.pointer (some ⟨B, 0, none⟩), .slice a4 n4 c4] w fun e w' => ∃ rv, e = .returned (.agg #[.int .i64 (cnt g n2), .slice (some ⟨w.heap.size + 2, 0, none⟩) n2 n2, rv]) ∧
      w.Since w.heap.size w' ∧ w'.rowIs (w.heap.size + 2) 3 n2 (fun q => .int .i64 (want g q)) ∧ w'.ownsRow (w.heap.size + 4) 3 1 rv (rg g n2).length ((rg g n2).map (Value.int .i64)) := by
  have hv1 := fit.v1
  have hn2 := fit.l2
  have hn1 := fit.l1
  have hn4 := fit.l4
  have hmk := run_make_row' (P := Try.prog) 45 4 (.bool false) 1 Try.underlying45 Try.info4 rfl .i64 .i64 v (by omega) (by omega)
  have hmk2 := run_make_row' (P := Try.prog) 22 3 (.int .i64 0) 8 Try.underlying22 Try.info3 rfl .i64 .i64 n2 (by omega) (by omega)
  obtain ⟨inf, hi, hz0, hz1', hz2'⟩ := info_parts Try.info3
  go_enter Try.func28, Try.ntmps28
  go_wp2
  clear hmk
  go_loopg [21] n4 (fun g i wr => ∃ k : Nat, k ≤ n4 ∧ g = n4 - k ∧ i = .int .i64 k ∧ w.Since w.heap.size wr ∧ wr.heap.size = w.heap.size + 2 ∧
    wr.rowIs w.heap.size 67 3 (fun i => if i = 0 then .int .i64 0 else .slice none 0 0) ∧ wr.rowIs (w.heap.size + 1) 4 v (fun u => .bool (memB f4 k u)))
  case atStart => exact ⟨0, Nat.zero_le _, rfl, rfl, lad_start1 w v f4⟩
  case round =>
    obtain ⟨k, hk, hgk, rfl, hS, hsz, hR, hI⟩ := hrel
    by_cases hlt : k < n4
    · obtain ⟨b, off, rfl, hb, hc⟩ := h4 (by omega)
      have hz : (k : Int) < (n4 : Int) := by omega
      obtain ⟨p0, p1⟩ := fit.mems k hlt
      have q0 : wr.cell? ⟨b, off + k, none⟩ = some (.int .i64 (f4 k)) := by rw [hS.cell (a := ⟨b, off + k, none⟩) hb]; exact hc k hlt
      have q1 : wr.cell? ⟨w.heap.size + 1, (f4 k).toNat, none⟩ = some (.bool (memB f4 k ((f4 k).toNat : Int))) := hI.cell (by omega)
      have q2 : wr.frozen? ⟨w.heap.size + 1, (f4 k).toNat, none⟩ = false := hI.frozen _
      clear hc hmk2
      go_wp2
      go_roundg (n4 - (k + 1))
      case measure => go_light; omega
      case rel =>
        go_light
        refine ⟨k + 1, by omega, rfl, by go_num, hS.setCell (by show w.heap.size ≤ w.heap.size + 1; omega) _, by simpa using hsz, hR.setOther (by show w.heap.size ≠ w.heap.size + 1; omega) _, (hI.set _ _).congr (fun j _ => ?_)⟩
        rw [memB_succ]
        by_cases e : j = (f4 k).toNat
        · rw [if_pos e]
          have : (f4 k == (j : Int)) = true := by rw [beq_iff_eq]; omega
          simp [this]
        · rw [if_neg e]
          have : (f4 k == (j : Int)) = false := by rw [beq_eq_false_iff_ne]; omega
          simp [this]
    · have e : k = n4 := by omega
      subst e
      clear hlt hgk
      have q8 : wr.cell? ⟨B, 8, none⟩ = some (.slice a1 n1 c1) := by rw [hS.cell (a := ⟨B, 8, none⟩) hB]; exact g8
      have q9 : wr.cell? ⟨B, 9, none⟩ = some (.slice a2 n2 c2) := by rw [hS.cell (a := ⟨B, 9, none⟩) hB]; exact g9
      have q8' : ∀ o1 o2, ((wr.alloc o1).alloc o2).cell? ⟨B, 8, none⟩ = some (.slice a1 n1 c1) := fun o1 o2 => two_old q8 o1 o2
      have q9' : ∀ o1 o2, ((wr.alloc o1).alloc o2).cell? ⟨B, 9, none⟩ = some (.slice a2 n2 c2) := fun o1 o2 => two_old q9 o1 o2
      have hpos := fit.pos
      go_wp2
      have hstart := inv_start (n2 := n2) (g := g) hS hsz hR hI (Obj.cells #[Value.slice a1 n1 c1, Value.slice a2 n2 c2] 50)
      clear q8' q9' q8 q9 hS hsz hR hI hmk2 g0 h4
      go_loopg [42] (n1 - 1) (fun gh i wr => ∃ (s : Nat) (rv : Value), s ≤ n1 - 1 ∧ gh = n1 - 1 - s ∧ i = .int .i64 s ∧ LadInv w wr w.heap.size v n2 (fun u => memB f4 k u) g (g.a s) rv)
      case atStart => exact ⟨0, _, Nat.zero_le _, rfl, rfl, by rw [ok.zero]; exact hstart⟩
      case round =>
        clear hstart
        obtain ⟨s, rv, hs, hgs, rfl, hL⟩ := hrel
        by_cases hlt : s < n1 - 1
        · obtain ⟨b1, o1, rfl, hb1, hc1⟩ := h1 (by omega)
          have hz : (s : Int) < (n1 : Int) - 1 := by omega
          have hz1 : (s : Int) < (n1 : Int) := by omega
          have q8 : wr.cell? ⟨B, 8, none⟩ = some (.slice (some ⟨b1, o1, none⟩) n1 c1) := by rw [hL.core.since.cell (a := ⟨B, 8, none⟩) hB]; exact g8
          have q1 : wr.cell? ⟨b1, o1 + s, none⟩ = some (.int .i64 (g.a s)) := by rw [hL.core.since.cell (a := ⟨b1, o1 + s, none⟩) hb1, hc1 s (by omega), hga.out s (by omega)]
          have hsm : s < g.m := by rw [hgm.out]; omega
          have hE : g.a (s + 1) ≤ n2 := by have := f1_top fit (s + 1) (by omega); rw [hga.out (s + 1) (by omega)] at this; omega
          have hAE : g.a s ≤ g.a (s + 1) := ok.mono s hsm
          have hc1' : w.cell? ⟨b1, o1 + (s + 1), none⟩ = some (.int .i64 (g.a (s + 1))) := by rw [hc1 (s + 1) (by omega), hga.out (s + 1) (by omega)]
          clear hc1
          go_wp2
          clear q8 q1
          go_loopg [10, 11, 12] (g.a (s + 1) - g.a s) (fun gh t tj pl wi => ∃ (p : Nat) (J0 : Int) (rv : Value), g.a s ≤ p ∧ p ≤ g.a (s + 1) ∧ gh = g.a (s + 1) - p ∧ t = .int .i64 (topAt g (g.a s) p) ∧ tj = .int .i64 J0 ∧ pl = .int .i64 p ∧ Hid (tjOk g (g.a s) p J0) ∧ LadInv w wi w.heap.size v n2 (fun u => memB f4 k u) g p rv)
          case atStart => exact ⟨g.a s, 0, rv, Nat.le_refl _, hAE, rfl, by rw [topAt_start], rfl, rfl, tj_start _ _ _, hL⟩
          case round =>
            clear hL
            obtain ⟨p, J0, rv, hp1, hp2, hgp, rfl, rfl, rfl, htj, hL⟩ := hrel
            have q8 : wr.cell? ⟨B, 8, none⟩ = some (.slice (some ⟨b1, o1, none⟩) n1 c1) := by rw [hL.core.since.cell (a := ⟨B, 8, none⟩) hB]; exact g8
            have q1 : wr.cell? ⟨b1, o1 + (s + 1), none⟩ = some (.int .i64 (g.a (s + 1))) := by rw [hL.core.since.cell (a := ⟨b1, o1 + (s + 1), none⟩) hb1]; exact hc1'
            have hz2 : (s : Int) + 1 < (n1 : Int) := by omega
            by_cases hlt2 : p < g.a (s + 1)
            · have hpn : p < n2 := by omega
              have hpz : (p : Int) < (n2 : Int) := by omega
              obtain ⟨b2, o2, rfl, hb2, hc2⟩ := h2 (by omega)
              obtain ⟨b3, o3, rfl, hb3, hc3⟩ := h3 (by omega)
              have q9 : wr.cell? ⟨B, 9, none⟩ = some (.slice (some ⟨b2, o2, none⟩) n2 c2) := by rw [hL.core.since.cell (a := ⟨B, 9, none⟩) hB]; exact g9
              have q12 : wr.cell? ⟨B, 12, none⟩ = some (.slice (some ⟨b3, o3, none⟩) n2 c3) := by rw [hL.core.since.cell (a := ⟨B, 12, none⟩) hB]; exact g12
              have q2 : wr.cell? ⟨b2, o2 + p, none⟩ = some (.int .i64 (f2 p)) := by rw [hL.core.since.cell (a := ⟨b2, o2 + p, none⟩) hb2]; exact hc2 p hpn
              have q3 : wr.cell? ⟨b3, o3 + p, none⟩ = some (.int .i64 (g.J p)) := by rw [hL.core.since.cell (a := ⟨b3, o3 + p, none⟩) hb3, hgJ.out p hpn]; exact hc3 p hpn
              obtain ⟨i0, i1⟩ := fit.items p hpn
              have q4 : wr.cell? ⟨w.heap.size + 1, (f2 p).toNat, none⟩ = some (.bool (g.M p)) := by
                rw [hL.core.isM.cell (by omega), hgM.out p hpn]; simp only [Int.toNat_of_nonneg i0]
              have q5 : wr.cell? ⟨w.heap.size + 2 + 1, 1, none⟩ = some (.slice (some ⟨w.heap.size + 2, 0, none⟩) n2 n2) := hL.core.l.cell (i := 1) (by omega)
              have q6 : wr.cell? ⟨w.heap.size + 2, p, none⟩ = some (.int .i64 0) := by have := hL.core.up.cell hpn; simpa using this
              have q7 : wr.frozen? ⟨w.heap.size + 2, p, none⟩ = false := hL.core.up.frozen p
              have HH : Hid (hd g p = (g.M p && (decide (topAt g (g.a s) p < 0) || g.J p != J0))) := test_hd ok hsm hp1 hlt2 htj.out
              clear hc2 hc3
              cases hM : g.M p
              · rw [hM] at q4
                have hh : Hid (hd g p = false) := by show hd g p = false; have := HH.out; rw [hM] at this; simpa using this
                clear HH hM
                go_wp2
                go_roundg (g.a (s + 1) - (p + 1))
                case measure => go_light; omega
                case rel =>
                  go_light
                  have st := step_not ok hsm hp1 hlt2 hh.out htj.out
                  exact ⟨p + 1, J0, rv, by omega, by omega, rfl, by rw [st.2.1], rfl, by go_num, st.2.2, inv_not hL hh.out (by rw [want_top ok hsm hp1 hlt2, st.2.1])⟩
              · rw [hM] at q4
                have q10 : wr.cell? ⟨w.heap.size + 2 + 1, 0, none⟩ = some (.int .i64 (cnt g p)) := hL.core.l.cell (i := 0) (by omega)
                have q11 : wr.frozen? ⟨w.heap.size + 2 + 1, 0, none⟩ = false := hL.core.l.frozen 0
                have hcn : cnt g p ≤ p := cnt_le_self g p
                by_cases ht : topAt g (g.a s) p < 0
                · have hh : Hid (hd g p = true) := by show hd g p = true; have := HH.out; rw [hM] at this; simpa [ht] using this
                  clear HH hM
                  go_wp2
                  go_quiet (fail)
                  go_wp2
                  go_roundg (g.a (s + 1) - (p + 1))
                  case measure => go_light; omega
                  case rel =>
                    go_light
                    have st := step_head ok hsm hp1 hlt2 hh.out
                    exact ⟨p + 1, g.J p, rv, by omega, by omega, rfl, by rw [st.2.1], rfl, by go_num, st.2.2, inv_first hL hh.out (rg_first ok hsm hp1 hlt2 ht) (by rw [want_top ok hsm hp1 hlt2, st.2.1]) rfl⟩
                · cases hJ : (g.J p != J0)
                  · have hh : Hid (hd g p = false) := by show hd g p = false; have := HH.out; rw [hM, hJ] at this; simpa [ht] using this
                    clear HH hM
                    go_wp2
                    go_roundg (g.a (s + 1) - (p + 1))
                    case measure => go_light; omega
                    case rel =>
                      go_light
                      have st := step_not ok hsm hp1 hlt2 hh.out htj.out
                      exact ⟨p + 1, J0, rv, by omega, by omega, rfl, by rw [st.2.1], rfl, by go_num, st.2.2, inv_not hL hh.out (by rw [want_top ok hsm hp1 hlt2, st.2.1])⟩
                  · have hh : Hid (hd g p = true) := by show hd g p = true; have := HH.out; rw [hM, hJ] at this; simpa using this
                    clear HH hM
                    obtain ⟨ra, rc, rfl⟩ := ownsRow_shape hL.rungs
                    have hrl := rg_length g p
                    have hT : 0 ≤ topAt g (g.a s) p := by omega
                    have hsz := hL.core.size
                    have q13 : wr.cell? ⟨w.heap.size + 2 + 1, 2, none⟩ = some (.slice ra (rg g p).length rc) := hL.core.l.cell (i := 2) (by omega)
                    go_wp2_with (at_builtin; refine wpList_append_own _ rfl _ _ 22 rfl (w.heap.size + 4) 3 inf (.int .i64 0) 1 8 Try.underlying22 hi hz0 hz1' hz2' rfl (by decide) _ _ _ rfl (hL.rungs.alloc _) ⟨wr.heap.size, 0, none⟩ 1 1 [.int .i64 (cnt g p)] rfl rfl (cell_one_new _ _ _) ?c2 ?c3 ?c4 ?c5 ?_)
                    case c2 => first | rfl | (intro u hu; simp at hu; subst hu; rfl)
                    case c3 => unfold maxLen; omega
                    case c4 => omega
                    case c5 => first | omega | (simp; omega)
                    intro rv' w1 hown' hgrow _
                    obtain ⟨ra', rc', hrv⟩ := ownsRow_shape hown'
                    subst hrv
                    have hc := (hL.core.alloc _).grown hgrow (fun k hk => (hL.rungs.lt k hk).1)
                    obtain ⟨y0, y1, y2, y3, y4, y5, y6⟩ := core_cells hc
                    have q14 : w1.cell? ⟨B, 12, none⟩ = some (.slice (some ⟨b3, o3, none⟩) n2 c3) := by rw [hc.since.cell (a := ⟨B, 12, none⟩) hB]; exact g12
                    have q15 : w1.cell? ⟨b3, o3 + p, none⟩ = some (.int .i64 (g.J p)) := by rw [hc.since.cell (a := ⟨b3, o3 + p, none⟩) hb3, ← hL.core.since.cell (a := ⟨b3, o3 + p, none⟩) hb3]; exact q3
                    have y5' := y5 p hpn
                    have y6' := y6 p
                    have e0 : B ≠ w.heap.size + 2 + 1 := by omega
                    have e1 : b3 ≠ w.heap.size + 2 + 1 := by omega
                    clear y5 y6 q13 q12 q9 q8 q10 q11 q7 q6 q5 q4 q3 q2 q1
                    go_wp2
                    go_quiet (fail)
                    go_wp2
                    go_roundg (g.a (s + 1) - (p + 1))
                    case measure => go_light; omega
                    case rel =>
                      go_light
                      have st := step_head ok hsm hp1 hlt2 hh.out
                      exact ⟨p + 1, g.J p, _, by omega, by omega, rfl, by rw [st.2.1], rfl, by go_num, st.2.2, inv_rung hL hh.out (rg_rung ok hsm hp1 hlt2 hh.out hT) (by rw [want_top ok hsm hp1 hlt2, st.2.1]) rfl _ hgrow hown'⟩
            · have e : p = g.a (s + 1) := by omega
              go_wp2
              go_roundg (n1 - 1 - (s + 1))
              case measure => go_light; omega
              case rel =>
                go_light
                exact ⟨s + 1, rv, by omega, rfl, by go_num, e ▸ hL⟩
        · have e : s = n1 - 1 := by omega
          have ea : g.a s = n2 := by
            have := hga.out s (by omega); rw [e, fit.last] at this; rw [e]; omega
          rw [ea] at hL
          have hr := hL.core.res
          have hl := hL.core.l
          have r0 : wr.cell? ⟨w.heap.size, 0, none⟩ = some (.int .i64 0) := hr.cell (i := 0) (by omega)
          have r1 : wr.cell? ⟨w.heap.size, 1, none⟩ = some (.slice none 0 0) := hr.cell (i := 1) (by omega)
          have r2 : wr.cell? ⟨w.heap.size, 2, none⟩ = some (.slice none 0 0) := hr.cell (i := 2) (by omega)
          have z0 : wr.frozen? ⟨w.heap.size, 0, none⟩ = false := hr.frozen 0
          have z1 : wr.frozen? ⟨w.heap.size, 1, none⟩ = false := hr.frozen 1
          have z2 : wr.frozen? ⟨w.heap.size, 2, none⟩ = false := hr.frozen 2
          have l0 : wr.cell? ⟨w.heap.size + 2 + 1, 0, none⟩ = some (.int .i64 (cnt g n2)) := hl.cell (i := 0) (by omega)
          have l1 : wr.cell? ⟨w.heap.size + 2 + 1, 1, none⟩ = some (.slice (some ⟨w.heap.size + 2, 0, none⟩) n2 n2) := hl.cell (i := 1) (by omega)
          have l2 : wr.cell? ⟨w.heap.size + 2 + 1, 2, none⟩ = some rv := hl.cell (i := 2) (by omega)
          obtain ⟨ra, rc, rfl⟩ := ownsRow_shape hL.rungs
          clear ea e hr hl
          go_wp2
          refine bodyPost_ret (v := .agg #[.int .i64 (cnt g n2), .slice (some ⟨w.heap.size + 2, 0, none⟩) n2 n2, .slice ra (rg g n2).length rc]) (by simp [results, Try.results28, go_sem, r0, r1, r2]) rfl ⟨_, rfl, ?_, ?_, ?_⟩
          · exact ((hL.core.since.setCell (Nat.le_refl _) _).setCell (Nat.le_refl _) _).setCell (Nat.le_refl _) _
          · refine (((hL.core.up.congr (fun q hq => by rw [if_pos hq])).setOther ?_ _).setOther ?_ _).setOther ?_ _ <;> (show w.heap.size + 2 ≠ w.heap.size; omega)
          · refine ownsRow_setCell_below (ownsRow_setCell_below (ownsRow_setCell_below hL.rungs ?_ _) ?_ _) ?_ _ <;> (show w.heap.size < w.heap.size + 4; omega)
end Go.Proofs.Qxb6600184a
