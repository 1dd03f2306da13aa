/-
  FnLaddersHubPerRunOfJoinTimes, walked.
-/
import Derived.Test.Qxb6600184aZZLad
namespace Go.Proofs.Qxb6600184a
open Go.RowKit Lad

/-- The law's own blocks: isMember (N), head (N + 1). -/
structure HC (w wr : World) (N v n : Nat) (mem hf : Nat → Bool) : Prop where
  since : w.Since N wr
  size : wr.heap.size = N + 2
  isM : wr.rowIs N 4 v (fun u => .bool (mem u))
  head : wr.rowIs (N + 1) 4 n (fun q => .bool (hf q))

theorem HC.congr {w wr : World} {N v n : Nat} {mem hf hf' : Nat → Bool} (h : HC w wr N v n mem hf) (e : ∀ q, hf q = hf' q) : HC w wr N v n mem hf' :=
  ⟨h.since, h.size, h.isM, h.head.congr (fun q _ => by rw [e q])⟩
theorem HC.drew {w wr : World} {N v n : Nat} {mem hf : Nat → Bool} (h : HC w wr N v n mem hf) : HC w wr.drew N v n mem hf := ⟨h.since.drew, h.size, h.isM, h.head⟩
theorem HC.set {w wr : World} {N v n : Nat} {mem hf hf' : Nat → Bool} (h : HC w wr N v n mem hf) (y : Nat) (b : Bool) (e : ∀ q, (if q = y then b else hf q) = hf' q) : HC w (wr.setCell ⟨N + 1, y, none⟩ (.bool b)) N v n mem hf' :=
  ⟨h.since.setCell (by show N ≤ N + 1; omega) _, by simpa using h.size, h.isM.setOther (by show N ≠ N + 1; omega) _, (h.head.set y _).congr (fun q _ => by rw [← e q]; split <;> rfl)⟩

/-- .. and upTo (N + 2). -/
structure UC (w wr : World) (N n : Nat) (hf : Nat → Bool) (u : Nat → Int) : Prop where
  since : w.Since N wr
  head : wr.rowIs (N + 1) 4 n (fun q => .bool (hf q))
  up : wr.rowIs (N + 2) 3 (n + 1) (fun q => .int .i64 (u q))
theorem UC.drewN {w wr : World} {N n : Nat} {hf : Nat → Bool} {u : Nat → Int} (h : UC w wr N n hf u) (k : Nat) : UC w (wr.drewN k) N n hf u := ⟨Since.drewN h.since k, h.head, h.up⟩
theorem UC.set {w wr : World} {N n : Nat} {hf : Nat → Bool} {u : Nat → Int} (h : UC w wr N n hf u) (y : Nat) (x : Int) : UC w (wr.setCell ⟨N + 2, y, none⟩ (.int .i64 x)) N n hf (fun q => if q = y then x else u q) :=
  ⟨h.since.setCell (by show N ≤ N + 2; omega) _, h.head.setOther (by show N + 1 ≠ N + 2; omega) _, (h.up.set y _).congr (fun q _ => by split <;> rfl)⟩
theorem UC.congr {w wr : World} {N n : Nat} {hf : Nat → Bool} {u u' : Nat → Int} (h : UC w wr N n hf u) (e : ∀ q, u q = u' q) : UC w wr N n hf u' := ⟨h.since, h.head, h.up.congr (fun q _ => by rw [e q])⟩

theorem up_next {g : Gr} {p q : Nat} {x : Int} (hx : (cnt g (p + 1) : Int) = x) : (if q = p + 1 then x else if q ≤ p then (cnt g q : Int) else 0) = if q ≤ p + 1 then (cnt g q : Int) else 0 := by
  by_cases e : q = p + 1
  · subst e; rw [if_pos rfl, if_pos (Nat.le_refl _), hx]
  · rw [if_neg e]
    by_cases h : q ≤ p
    · rw [if_pos h, if_pos (by omega)]
    · rw [if_neg h, if_neg (by omega)]

theorem UC.done {w wr : World} {N n : Nat} {g : Gr} (h : UC w wr N n (hd g) (fun q => if q ≤ n then (cnt g q : Int) else 0)) : UC w wr N n (hd g) (fun q => cnt g q) := ⟨h.since, h.head, h.up.congr (fun q hq => by rw [if_pos (by omega)])⟩

theorem mem_step {f : Nat → Int} {k j : Nat} (h0 : 0 ≤ f k) : (if j = (f k).toNat then Value.bool true else .bool (memB f k j)) = .bool (memB f (k + 1) j) := by
  rw [memB_succ]
  by_cases e : j = (f k).toNat
  · rw [if_pos e]
    have : (f k == (j : Int)) = true := by rw [beq_iff_eq]; omega
    simp [this]
  · rw [if_neg e]
    have : (f k == (j : Int)) = false := by rw [beq_eq_false_iff_ne]; omega
    simp [this]

set_option maxHeartbeats 4000000 in
set_option maxRecDepth 100000 in
theorem hub_walk (a0 : Int) (a1 a2 a3 a4 : Option Addr) (n1 n2 n3 n4 c1 c2 c3 c4 : Nat) (f1 f2 f3 f4 : Nat → Int) (w : World)
    (m1 : n1 ≤ maxLen) (m2 : n2 ≤ maxLen) (m3 : n3 ≤ maxLen) (m4 : n4 ≤ maxLen)
    (z1 : a1 = none → n1 = 0 ∧ c1 = 0) (z2 : a2 = none → n2 = 0 ∧ c2 = 0) (z3 : a3 = none → n3 = 0 ∧ c3 = 0) (z4 : a4 = none → n4 = 0 ∧ c4 = 0)
    (h1 : IsInts w .i64 a1 n1 f1) (h2 : IsInts w .i64 a2 n2 f2) (h3 : IsInts w .i64 a3 n3 f3) (h4 : IsInts w .i64 a4 n4 f4) :
    Calls Try.prog 5 #[.int .i64 a0, .slice a1 n1 c1, .slice a2 n2 c2, .slice a3 n3 c3, .slice a4 n4 c4] w fun e w' => e = .returned (.bool true) ∧ w.Since w.heap.size w' := by
  go_enter Try.func5, Try.ntmps5
  go_wp2_with fail
  refine (zzHub _ _ _ _ _ _ _ _ _ _ _ _ _ _ m1 m2 m3 m4).mono ?_
  rintro e w' ⟨⟨b, rfl⟩, rfl⟩
  cases b
  · go_wp2
    go_ret
    exact ⟨rfl, World.Since.refl _ _⟩
  go_wp2_with fail
  refine (fits_any _ _ _ _ _ _ _ _ _ _ _ _ _ f1 f2 f4 _ m1 m2 m3 m4 h1 h2 h4).mono ?_
  rintro e w1 ⟨b, rfl, hfit, hs1⟩
  cases b
  · clear hfit
    go_wp2
    go_ret
    exact ⟨rfl, hs1⟩
  have fit := hfit rfl
  clear hfit
  obtain rfl := fit.same
  obtain ⟨v, rfl⟩ := Int.eq_ofNat_of_zero_le fit.v0
  have l1 := fit.l1
  have l2 := fit.l2
  have l4 := fit.l4
  go_wp2_with fail
  refine (copyInts_any w1 a1 n1 c1 f1 (by omega) z1 (h1.since hs1 (Nat.le_refl _))).mono ?_
  rintro e w2 ⟨b1, d1, rfl, k1, hs2⟩
  have s2 := Since.step hs1 hs2
  have h2' := (h2.since s2 (Nat.le_refl _))
  clear hs1 hs2 h1 z1
  go_wp2_with fail
  refine (copyInts_any w2 a2 n3 c2 f2 (by omega) z2 h2').mono ?_
  rintro e w3 ⟨b2, d2, rfl, k2, hs3⟩
  have s3 := Since.step s2 hs3
  have k1' := k1.since hs3 (Nat.le_refl _)
  have h3' := (h3.since s3 (Nat.le_refl _))
  clear s2 hs3 h2 z2 h2' k1 h3
  go_wp2_with fail
  refine (copyInt64s_any w3 a3 n3 c3 f3 (by omega) z3 h3').mono ?_
  rintro e w4 ⟨b3, d3, rfl, k3, hs4⟩
  have s4 := Since.step s3 hs4
  have k1 := k1'.since hs4 (Nat.le_refl _)
  have k2' := k2.since hs4 (Nat.le_refl _)
  have h4' := (h4.since s4 (Nat.le_refl _))
  clear s3 hs4 h3' z3 k1' k2 h4
  go_wp2_with fail
  refine (copyInts_any w4 a4 n4 c4 f4 (by omega) z4 h4').mono ?_
  rintro e w5 ⟨b4, d4, rfl, k4, hs5⟩
  have s5 := Since.step s4 hs5
  have k1' := k1.since hs5 (Nat.le_refl _)
  have k2 := k2'.since hs5 (Nat.le_refl _)
  have k3' := k3.since hs5 (Nat.le_refl _)
  clear s4 hs5 h4' z4 k1 k2' k3
  go_wp2_with fail
  refine (zzlad v b1 b2 b3 b4 n1 n3 n4 d1 d2 d3 d4 f1 f2 f3 f4 w5 fit k1' k2 k3' k4).mono ?_
  rintro e w6 ⟨ua, ra, rc, rfl, hU, hR, hs6⟩
  have s6 := Since.step s5 hs6
  have k1 := k1'.since hs6 (Nat.le_refl _)
  have k2' := k2.since hs6 (Nat.le_refl _)
  have k3 := k3'.since hs6 (Nat.le_refl _)
  have k4' := k4.since hs6 (Nat.le_refl _)
  clear s5 hs6 k1' k2 k3' k4
  have ok := gr_ok (f3 := f3) fit
  obtain ⟨g, hg⟩ : ∃ g, g = gr n1 n4 f1 f2 f3 f4 := ⟨_, rfl⟩
  have hgm : Hid (g.m = n1 - 1) := by rw [hg]; exact rfl
  have hga : Hid (∀ s, s < n1 → f1 s = g.a s) := by
    intro s hs; have := f1_nonneg fit s hs; rw [hg]; show f1 s = ((f1 s).toNat : Int); omega
  have hgM : Hid (∀ p, p < n3 → g.M p = memB f4 n4 (f2 p)) := by intro p _; rw [hg]; rfl
  have hgJ : Hid (∀ p, p < n3 → g.J p = f3 p) := by intro p _; rw [hg]; rfl
  rw [← hg] at ok hU hR ⊢
  clear hg
  have hv1 := fit.v1
  have hmk := run_make_row' (P := Try.prog) 45 4 (.bool false) 1 Try.underlying45 Try.info4 rfl .i64 .i64 v (by omega) (by omega)
  have hmkh := run_make_row' (P := Try.prog) 45 4 (.bool false) 1 Try.underlying45 Try.info4 rfl .i64 .i64 n3 (by omega) (by omega)
  have hmk2 := run_make_row' (P := Try.prog) 22 3 (.int .i64 0) 8 Try.underlying22 Try.info3 rfl .i64 .i64 (n3 + 1) (by omega) (by omega)
  rw [show ((n3 + 1 : Nat) : Int) = (n3 : Int) + 1 from by omega] at hmk2
  go_wp2
  clear hmk
  go_loopg [15] n4 (fun gh i wr => ∃ k : Nat, k ≤ n4 ∧ gh = n4 - k ∧ i = .int .i64 k ∧ w6.Since w6.heap.size wr ∧ wr.heap.size = w6.heap.size + 1 ∧ wr.rowIs w6.heap.size 4 v (fun u => .bool (memB f4 k u)))
  case atStart => exact ⟨0, Nat.zero_le _, rfl, rfl, (World.Since.refl _ _).alloc (Nat.le_refl _) _, by simp, (World.rowIs_made w6 _ v 4).congr (fun j _ => rfl)⟩
  case round =>
    obtain ⟨k, hk, hgk, rfl, hS, hsz, hI⟩ := hrel
    by_cases hlt : k < n4
    · obtain ⟨b, off, rfl, hb, hc⟩ := k4' (by omega)
      have hz : (k : Int) < (n4 : Int) := by omega
      obtain ⟨p0, p1⟩ := fit.mems k hlt
      have q0 : wr.cell? ⟨b, off + k, none⟩ = some (.int .i64 (f4 k)) := by rw [hS.cell (a := ⟨b, off + k, none⟩) hb]; exact hc k hlt
      have q1 : wr.cell? ⟨w6.heap.size, (f4 k).toNat, none⟩ = some (.bool (memB f4 k ((f4 k).toNat : Int))) := hI.cell (by omega)
      have q2 : wr.frozen? ⟨w6.heap.size, (f4 k).toNat, none⟩ = false := hI.frozen _
      clear hc hmk2 hmkh
      go_wp2
      go_roundg (n4 - (k + 1))
      case measure => go_light; omega
      case rel =>
        go_light
        exact ⟨k + 1, by omega, rfl, by go_num, hS.setCell (Nat.le_refl _) _, by simpa using hsz, (hI.set _ _).congr (fun j _ => mem_step p0)⟩
    · have e : k = n4 := by omega
      subst e
      clear hlt hgk k4' hk
      go_wp2
      have hH : HC w6 (wr.alloc (.cells (madeCells #[.bool false] n3) 4)) w6.heap.size v n3 (fun u => memB f4 k u) (fun _ => false) := by
        have := World.rowIs_made wr (.bool false) n3 4
        rw [hsz] at this
        exact ⟨hS.alloc (by omega) _, by simp [hsz], hI.alloc _, this⟩
      clear hS hsz hI hmkh
      go_loopg [17] (n1 - 1) (fun gh i wr => ∃ s : Nat, s ≤ n1 - 1 ∧ gh = n1 - 1 - s ∧ i = .int .i64 s ∧ HC w6 wr w6.heap.size v n3 (fun u => memB f4 k u) (hout g (g.a s)))
      case atStart => exact ⟨0, Nat.zero_le _, rfl, rfl, hH.congr (fun q => by unfold hout; rw [ok.zero]; simp)⟩
      case round =>
        clear hH
        obtain ⟨s, hs, hgs, rfl, hH⟩ := hrel
        have hpos := fit.pos
        by_cases hlt : s < n1 - 1
        · obtain ⟨bb1, o1, rfl, hb1, hc1⟩ := k1 (by omega)
          have hz : (s : Int) + 1 < (n1 : Int) := by omega
          have q1 : wr.cell? ⟨bb1, o1 + (s + 1), none⟩ = some (.int .i64 (g.a (s + 1))) := by rw [hH.since.cell (a := ⟨bb1, o1 + (s + 1), none⟩) hb1, hc1 (s + 1) (by omega), hga.out (s + 1) (by omega)]
          have hsm : s < g.m := by rw [hgm.out]; omega
          have hE : g.a (s + 1) ≤ n3 := by have := f1_top fit (s + 1) (by omega); rw [hga.out (s + 1) (by omega)] at this; omega
          have hAE : g.a s ≤ g.a (s + 1) := ok.mono s hsm
          have hc1' : w6.cell? ⟨bb1, o1 + s, none⟩ = some (.int .i64 (g.a s)) := by rw [hc1 s (by omega), hga.out s (by omega)]
          clear hc1
          go_wp2
          clear q1
          go_loopg [18, 19] (g.a (s + 1) - g.a s) (fun gh nx pl wr => ∃ (i : Nat) (pz x : Int), g.a s ≤ i ∧ i ≤ g.a (s + 1) ∧ gh = i - g.a s ∧ Hid (pz = (i : Int) - 1) ∧ nx = .int .i64 x ∧ pl = .int .i64 pz ∧ Hid (Nxt g i (g.a (s + 1)) x) ∧ HC w6 wr w6.heap.size v n3 (fun u => memB f4 k u) (hrow g (g.a s) i (g.a (s + 1)) x))
          case atStart => exact ⟨g.a (s + 1), _, -1, hAE, Nat.le_refl _, rfl, rfl, rfl, rfl, nxt_start g _, hH.congr (fun q => (hrow_start g _ _ _ q).symm)⟩
          case round =>
            clear hH
            obtain ⟨i, pz, x, hi1, hi2, hgi, hpz, rfl, rfl, hnx, hH⟩ := hrel
            have q0 : wr.cell? ⟨bb1, o1 + s, none⟩ = some (.int .i64 (g.a s)) := by rw [hH.since.cell (a := ⟨bb1, o1 + s, none⟩) hb1]; exact hc1'
            have hz3 : (s : Int) < (n1 : Int) := by omega
            by_cases hlt2 : g.a s < i
            · obtain ⟨j, rfl⟩ : ∃ j, i = j + 1 := ⟨i - 1, by omega⟩
              obtain rfl : pz = (j : Int) := by have := hpz.out; omega
              clear hpz
              have hjn : j < n3 := by omega
              have hjz : (j : Int) < (n3 : Int) := by omega
              have hjs : (g.a s : Int) ≤ (j : Int) := by omega
              obtain ⟨bb2, o2, rfl, hb2, hc2⟩ := k2' (by omega)
              obtain ⟨bb3, o3, rfl, hb3, hc3⟩ := k3 (by omega)
              have q2 : wr.cell? ⟨bb2, o2 + j, none⟩ = some (.int .i64 (f2 j)) := by rw [hH.since.cell (a := ⟨bb2, o2 + j, none⟩) hb2]; exact hc2 j hjn
              have q3 : wr.cell? ⟨bb3, o3 + j, none⟩ = some (.int .i64 (g.J j)) := by rw [hH.since.cell (a := ⟨bb3, o3 + j, none⟩) hb3, hgJ.out j hjn]; exact hc3 j hjn
              obtain ⟨i0, i1⟩ := fit.items j hjn
              have q4 : wr.cell? ⟨w6.heap.size, (f2 j).toNat, none⟩ = some (.bool (g.M j)) := by
                rw [hH.isM.cell (by omega), hgM.out j hjn]; simp only [Int.toNat_of_nonneg i0]
              cases hM : g.M j
              · rw [hM] at q4
                have HM : Hid (g.M j = false) := hM
                clear hM hc2 hc3 hmk2
                go_wp2
                go_roundg (j - g.a s)
                case measure => go_light; omega
                case rel =>
                  go_light
                  exact ⟨j, (j : Int) - 1, x, by omega, by omega, rfl, rfl, rfl, by go_num, nxt_not HM.out hnx.out, hH.congr (fun q => hrow_not HM.out q)⟩
              · rw [hM] at q4
                have HM : Hid (g.M j = true) := hM
                clear hM
                rcases hnx.out with ⟨hx, hno⟩ | ⟨y, hx, hy1, hy2, hy3, hy4⟩
                · subst hx
                  clear hc2 hc3 hno hmk2
                  go_wp2
                  go_roundg (j - g.a s)
                  case measure => go_light; omega
                  case rel =>
                    go_light
                    exact ⟨j, (j : Int) - 1, j, by omega, by omega, rfl, rfl, rfl, by go_num, nxt_mem (by omega) HM.out, hH.congr (fun q => hrow_first q)⟩
                · subst hx
                  have hyn : y < n3 := by omega
                  have hyz : (y : Int) < (n3 : Int) := by omega
                  have q5 : wr.cell? ⟨bb3, o3 + y, none⟩ = some (.int .i64 (g.J y)) := by rw [hH.since.cell (a := ⟨bb3, o3 + y, none⟩) hb3, hgJ.out y hyn]; exact hc3 y hyn
                  have q6 : wr.cell? ⟨w6.heap.size + 1, y, none⟩ = some (.bool (hrow g (g.a s) (j + 1) (g.a (s + 1)) y y)) := hH.head.cell hyn
                  have q7 : wr.frozen? ⟨w6.heap.size + 1, y, none⟩ = false := hH.head.frozen y
                  clear hc2 hc3 hy3 hy4 hmk2
                  go_wp2
                  go_region
                  go_wp2
                  go_roundg (j - g.a s)
                  case measure => go_light; omega
                  case rel =>
                    go_light
                    exact ⟨j, (j : Int) - 1, j, by omega, by omega, rfl, rfl, rfl, by go_num, nxt_mem (by omega) HM.out, (hH.set y _ (fun q => hrow_mem ok hsm (by omega) HM.out hnx.out q)).drew⟩
            · have e : i = g.a s := by omega
              subst e
              have hpl : pz < (g.a s : Int) := by have := hpz.out; omega
              rcases hnx.out with ⟨hx, hno⟩ | ⟨y, hx, hy1, hy2, hy3, hy4⟩
              · subst hx
                clear hno
                go_wp2
                go_roundg (n1 - 1 - (s + 1))
                case measure => go_light; omega
                case rel =>
                  go_light
                  exact ⟨s + 1, by omega, rfl, by go_num, hH.congr (fun q => hrow_end_none ok hsm q)⟩
              · subst hx
                have hyn : y < n3 := by omega
                have hyz : (y : Int) < (n3 : Int) := by omega
                have q6 : wr.cell? ⟨w6.heap.size + 1, y, none⟩ = some (.bool (hrow g (g.a s) (g.a s) (g.a (s + 1)) y y)) := hH.head.cell hyn
                have q7 : wr.frozen? ⟨w6.heap.size + 1, y, none⟩ = false := hH.head.frozen y
                clear hy3 hy4 hmk2
                go_wp2
                go_roundg (n1 - 1 - (s + 1))
                case measure => go_light; omega
                case rel =>
                  go_light
                  exact ⟨s + 1, by omega, rfl, by go_num, hH.set y _ (fun q => hrow_end ok hsm hnx.out q)⟩
        · have e : s = n1 - 1 := by omega
          have ea : g.a s = n3 := by
            have := hga.out s (by omega); rw [e, fit.last] at this; rw [e]; omega
          rw [ea] at hH
          clear ea
          have hsz := hH.size
          go_wp2
          have hU0 : UC w6 (wr.alloc (.cells (madeCells #[.int .i64 0] (n3 + 1)) 3)) w6.heap.size n3 (hd g) (fun q => if q ≤ 0 then (cnt g q : Int) else 0) := by
            have := World.rowIs_made wr (.int .i64 0) (n3 + 1) 3
            rw [hsz] at this
            exact ⟨hH.since.alloc (by omega) _, (hH.head.alloc _).congr (fun q hq => by unfold hout; rw [if_pos hq]), this.congr (fun q _ => by
              by_cases h0 : q ≤ 0
              · rw [if_pos h0]; have : q = 0 := by omega
                subst this; rfl
              · rw [if_neg h0])⟩
          clear hH hsz hmk2
          go_loopg [21] n3 (fun gh i wr => ∃ p : Nat, p ≤ n3 ∧ gh = n3 - p ∧ i = .int .i64 p ∧ UC w6 wr w6.heap.size n3 (hd g) (fun q => if q ≤ p then (cnt g q : Int) else 0))
          case atStart => exact ⟨0, Nat.zero_le _, rfl, rfl, hU0⟩
          case round =>
            clear hU0
            obtain ⟨p, hp, hgp, rfl, hC⟩ := hrel
            by_cases hlt4 : p < n3
            · have hpz : (p : Int) < (n3 : Int) := by omega
              have hcn := cnt_le_self g p
              have q0 : wr.cell? ⟨w6.heap.size + 2, p, none⟩ = some (.int .i64 (cnt g p)) := by have := hC.up.cell (i := p) (by omega); simpa using this
              have q1 : wr.cell? ⟨w6.heap.size + 2, p + 1, none⟩ = some (.int .i64 0) := by have := hC.up.cell (i := p + 1) (by omega); rw [if_neg (by omega)] at this; exact this
              have q2 : wr.frozen? ⟨w6.heap.size + 2, p + 1, none⟩ = false := hC.up.frozen _
              have q3 : wr.cell? ⟨w6.heap.size + 1, p, none⟩ = some (.bool (hd g p)) := hC.head.cell hlt4
              cases hh : hd g p
              · rw [hh] at q3
                have HH : Hid (cnt g (p + 1) = cnt g p) := by show cnt g (p + 1) = cnt g p; rw [cnt_succ, hh]; rfl
                clear hh
                go_wp2
                go_roundg (n3 - (p + 1))
                case measure => go_light; omega
                case rel =>
                  go_light
                  refine ⟨p + 1, by omega, rfl, by go_num, (hC.set (p + 1) _).congr (fun q => ?_)⟩
                  exact up_next (by rw [HH.out])
              · rw [hh] at q3
                have HH : Hid ((cnt g (p + 1) : Int) = cnt g p + 1) := by show (cnt g (p + 1) : Int) = cnt g p + 1; rw [cnt_succ, hh]; simp
                clear hh
                go_wp2
                go_roundg (n3 - (p + 1))
                case measure => go_light; omega
                case rel =>
                  go_light
                  refine ⟨p + 1, by omega, rfl, by go_num, ((hC.set (p + 1) _).set (p + 1) _).congr (fun q => ?_)⟩
                  rw [← up_next (q := q) HH.out]
                  by_cases e : q = p + 1
                  · rw [if_pos e, if_pos e]
                  · rw [if_neg e, if_neg e, if_neg e]
            · have e : p = n3 := by omega
              subst e
              replace hC := hC.done
              clear hgp hlt4
              have q0 : wr.cell? ⟨w6.heap.size + 2, p, none⟩ = some (.int .i64 (cnt g p)) := hC.up.cell (i := p) (by omega)
              have t1 : ((cnt g p : Int) != (cnt g p : Int)) = false := by simp
              have t2 : ((p : Int) != (p : Int)) = false := by simp
              go_wp2
              clear q0 t1 t2
              go_loopg [22, 23] (n1 - 1) (fun gh kk i wr => ∃ s : Nat, s ≤ n1 - 1 ∧ gh = n1 - 1 - s ∧ i = .int .i64 s ∧ kk = .int .i64 (rg g (g.a s)).length ∧ UC w6 wr w6.heap.size p (hd g) (fun q => cnt g q))
              case atStart => exact ⟨0, Nat.zero_le _, rfl, rfl, by rw [ok.zero]; rfl, hC⟩
              case round =>
                clear hC e hgs hlt
                obtain ⟨s, hs, hgs, rfl, rfl, hC⟩ := hrel
                by_cases hlt : s < n1 - 1
                · obtain ⟨bb1, o1, rfl, hb1, hc1⟩ := k1 (by omega)
                  have hz : (s : Int) + 1 < (n1 : Int) := by omega
                  have hz3 : (s : Int) < (n1 : Int) := by omega
                  have hsm : s < g.m := by rw [hgm.out]; omega
                  have hE : g.a (s + 1) ≤ p := by have := f1_top fit (s + 1) (by omega); rw [hga.out (s + 1) (by omega)] at this; omega
                  have hAE : g.a s ≤ g.a (s + 1) := ok.mono s hsm
                  have hAz : (g.a s : Int) < (p : Int) + 1 := by omega
                  have q0 : wr.cell? ⟨bb1, o1 + s, none⟩ = some (.int .i64 (g.a s)) := by rw [hC.since.cell (a := ⟨bb1, o1 + s, none⟩) hb1, hc1 s (by omega), hga.out s (by omega)]
                  have hc1' : w6.cell? ⟨bb1, o1 + (s + 1), none⟩ = some (.int .i64 (g.a (s + 1))) := by rw [hc1 (s + 1) (by omega), hga.out (s + 1) (by omega)]
                  have q1 : wr.cell? ⟨w6.heap.size + 2, g.a s, none⟩ = some (.int .i64 (cnt g (g.a s))) := hC.up.cell (i := g.a s) (by omega)
                  clear hc1
                  go_wp2
                  clear q0 q1
                  go_loopg [22, 25] (g.a (s + 1) - g.a s) (fun gh kk pl wr => ∃ i : Nat, g.a s ≤ i ∧ i ≤ g.a (s + 1) ∧ gh = g.a (s + 1) - i ∧ pl = .int .i64 i ∧ kk = .int .i64 (rg g i).length ∧ UC w6 wr w6.heap.size p (hd g) (fun q => cnt g q))
                  case atStart => exact ⟨g.a s, Nat.le_refl _, hAE, rfl, rfl, rfl, hC⟩
                  case round =>
                    clear hC
                    obtain ⟨i, hi1, hi2, hgi, rfl, rfl, hC⟩ := hrel
                    have q1 : wr.cell? ⟨bb1, o1 + (s + 1), none⟩ = some (.int .i64 (g.a (s + 1))) := by rw [hC.since.cell (a := ⟨bb1, o1 + (s + 1), none⟩) hb1]; exact hc1'
                    by_cases hlt2 : i < g.a (s + 1)
                    · have hip : i < p := by omega
                      have hiz : (i : Int) < (p : Int) := by omega
                      have hiz1 : (i : Int) + 1 < (p : Int) + 1 := by omega
                      have hiz2 : (i : Int) < (p : Int) + 1 := by omega
                      obtain ⟨ub, uo, rfl, hub, huc⟩ := hU (by omega)
                      have q2 : wr.cell? ⟨w6.heap.size + 2, i, none⟩ = some (.int .i64 (cnt g i)) := hC.up.cell (i := i) (by omega)
                      have q3 : wr.cell? ⟨w6.heap.size + 2, i + 1, none⟩ = some (.int .i64 (cnt g (i + 1))) := hC.up.cell (i := i + 1) (by omega)
                      have q4 : wr.cell? ⟨w6.heap.size + 1, i, none⟩ = some (.bool (hd g i)) := hC.head.cell (by omega)
                      have q5 : wr.cell? ⟨ub, uo + i, none⟩ = some (.int .i64 (topAt g (g.a s) (i + 1))) := by rw [hC.since.cell (a := ⟨ub, uo + i, none⟩) hub, ← want_top ok hsm hi1 hlt2]; exact huc i hip
                      have hcn := cnt_le_self g i
                      have hcn1 := cnt_le_self g (i + 1)
                      have hrl := rg_length g i
                      clear huc
                      cases hh : hd g i
                      · rw [hh] at q4
                        have HR : Hid (rg g (i + 1) = rg g i) := rg_not hh
                        by_cases hA : cnt g (g.a s) < cnt g (i + 1)
                        · have eT : topAt g (g.a s) (i + 1) = (cnt g (i + 1) : Int) - 1 := by unfold topAt; rw [if_pos hA]
                          rw [eT] at q5
                          have t1 : ((cnt g (i + 1) : Int) - 1 != (cnt g (i + 1) : Int) - 1) = false := by simp
                          clear eT hh
                          go_wp2
                          go_roundg (g.a (s + 1) - (i + 1))
                          case measure => go_light; omega
                          case rel =>
                            go_light
                            exact ⟨i + 1, by omega, by omega, rfl, by go_num, by rw [HR.out], hC⟩
                        · have eT : topAt g (g.a s) (i + 1) = -1 := by unfold topAt; rw [if_neg hA]
                          rw [eT] at q5
                          clear eT hh
                          go_wp2
                          go_roundg (g.a (s + 1) - (i + 1))
                          case measure => go_light; omega
                          case rel =>
                            go_light
                            exact ⟨i + 1, by omega, by omega, rfl, by go_num, by rw [HR.out], hC⟩
                      · rw [hh] at q4
                        have hle := cnt_le (g := g) hi1
                        have HX : cnt g i < cnt g (i + 1) := by rw [cnt_succ, hh]; simp
                        have eT : topAt g (g.a s) (i + 1) = (cnt g (i + 1) : Int) - 1 := by unfold topAt; rw [if_pos (by omega)]
                        rw [eT] at q5
                        have t1 : ((cnt g (i + 1) : Int) - 1 != (cnt g (i + 1) : Int) - 1) = false := by simp
                        by_cases hCc : cnt g (g.a s) < cnt g i
                        · obtain ⟨r1, r2, r3⟩ := rg_at ok hsm hi1 hlt2 hip hh hCc
                          obtain ⟨rb, ro, rfl, hrb, hrc⟩ := hR (by omega)
                          have q6 : wr.cell? ⟨rb, ro + (rg g i).length, none⟩ = some (.int .i64 (cnt g i)) := by
                            rw [hC.since.cell (a := ⟨rb, ro + (rg g i).length, none⟩) hrb, hrc _ r1]
                            show some (Value.int .i64 ((rg g p).getD (rg g i).length 0)) = _
                            rw [r2]
                          have R3 : Hid ((rg g (i + 1)).length = (rg g i).length + 1) := r3
                          have t3 : ((cnt g i : Int) != (cnt g i : Int)) = false := by simp
                          have r1z : ((rg g i).length : Int) < ((rg g p).length : Int) := by omega
                          clear eT hh r2 r3 hrc
                          go_wp2
                          go_quiet (fail)
                          go_wp2
                          go_roundg (g.a (s + 1) - (i + 1))
                          case measure => go_light; omega
                          case rel =>
                            go_light
                            exact ⟨i + 1, by omega, by omega, rfl, by go_num, by rw [R3.out]; go_num, hC.drewN _⟩
                        · have HR : Hid (rg g (i + 1) = rg g i) := rg_first ok hsm hi1 hlt2 (by have := top_nonneg (g := g) (g.a s) i; omega)
                          clear eT hh
                          go_wp2
                          go_roundg (g.a (s + 1) - (i + 1))
                          case measure => go_light; omega
                          case rel =>
                            go_light
                            exact ⟨i + 1, by omega, by omega, rfl, by go_num, by rw [HR.out], hC⟩
                    · have e : i = g.a (s + 1) := by omega
                      go_wp2
                      go_roundg (n1 - 1 - (s + 1))
                      case measure => go_light; omega
                      case rel =>
                        go_light
                        exact ⟨s + 1, by omega, rfl, by go_num, by rw [e], hC⟩
                · have e : s = n1 - 1 := by omega
                  have ea : g.a s = p := by
                    have := hga.out s (by omega); rw [e, fit.last] at this; rw [e]; omega
                  rw [ea]
                  have t1 : (((rg g p).length : Int) == ((rg g p).length : Int)) = true := by simp
                  clear ea e
                  go_wp2
                  go_ret
                  exact ⟨rfl, Since.step s6 hC.since⟩
end Go.Proofs.Qxb6600184a
