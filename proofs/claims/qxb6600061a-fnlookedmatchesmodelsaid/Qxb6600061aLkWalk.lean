/-
  FnLookedMatchesModel: the walk (seat 061a).
-/
import Derived.Test.Qxb6600061aLooked
import Derived.Test.Qxb6600061aFits
import Derived.Test.Qxb6600061aClone
namespace Go.Proofs.Qxb6600061a
open Go.RowKit Go.Maps

theorem lk_at {pen pub : List Int} {S : Nat → Sp} {k n : Nat} (hk : k < n) (h : (S k).wl.any (bad pen pub) = false) : (lk pen pub (sl S n))[(lk pen pub (sl S k)).length]? = some (thin pub (S k)) := by
  induction n with
  | zero => omega
  | succ n ih =>
    by_cases e : k = n
    · subst e
      rw [lk_stay h]
      simp
    · have i := ih (by omega)
      have hl := (List.getElem?_eq_some_iff.1 i).1
      cases h2 : (S n).wl.any (bad pen pub) with
      | true => rw [lk_go h2]; exact i
      | false => rw [lk_stay h2, List.getElem?_append_left hl]; exact i

/-- A span of four cells laid into a new block. -/
theorem box4 (wr : World) (s : Sp) (wa : Option Addr) (wc : Nat) : ∃ wx, wx = wr.alloc (Obj.cells #[.int .i64 s.lo, .int .i64 s.hi, .int .i64 s.pend, .slice wa s.wl.length wc] 31) ∧ wr.Since wr.heap.size wx ∧ wr.heap.size < wx.heap.size ∧
    wx.cell? ⟨wr.heap.size, 0, none⟩ = some (.int .i64 s.lo) ∧ wx.cell? ⟨wr.heap.size, 1, none⟩ = some (.int .i64 s.hi) ∧ wx.cell? ⟨wr.heap.size, 2, none⟩ = some (.int .i64 s.pend) ∧ wx.cell? ⟨wr.heap.size, 3, none⟩ = some (.slice wa s.wl.length wc) := by
  have h0 := heap_alloc_new wr (Obj.cells #[.int .i64 s.lo, .int .i64 s.hi, .int .i64 s.pend, .slice wa s.wl.length wc] 31)
  refine ⟨_, rfl, (World.Since.refl _ _).alloc (Nat.le_refl _) _, by simp, ?_, ?_, ?_, ?_⟩
  all_goals (unfold World.cell?; rw [h0]; rfl)
theorem box5 (wr : World) (s : Sp) (wa : Option Addr) (wc : Nat) : ∃ wx, wx = wr.alloc (Obj.cells #[.int .i64 s.lo, .int .i64 s.hi, .map none, .int .i64 s.pend, .slice wa s.wl.length wc] 35) ∧ wr.Since wr.heap.size wx ∧ wr.heap.size < wx.heap.size ∧
    wx.cell? ⟨wr.heap.size, 0, none⟩ = some (.int .i64 s.lo) ∧ wx.cell? ⟨wr.heap.size, 1, none⟩ = some (.int .i64 s.hi) ∧ wx.cell? ⟨wr.heap.size, 3, none⟩ = some (.int .i64 s.pend) ∧ wx.cell? ⟨wr.heap.size, 4, none⟩ = some (.slice wa s.wl.length wc) := by
  have h0 := heap_alloc_new wr (Obj.cells #[.int .i64 s.lo, .int .i64 s.hi, .map none, .int .i64 s.pend, .slice wa s.wl.length wc] 35)
  refine ⟨_, rfl, (World.Since.refl _ _).alloc (Nat.le_refl _) _, by simp, ?_, ?_, ?_, ?_⟩
  all_goals (unfold World.cell?; rw [h0]; rfl)

set_option maxHeartbeats 3200000 in
set_option maxRecDepth 100000 in
theorem lkm_walk (w : World) (a a1 a2 : Option Addr) (n c n1 c1 n2 c2 : Nat) (S : Nat → Sp) (f1 f2 : Nat → Int) (hn : n ≤ maxLen) (m1 : n1 ≤ maxLen) (m2 : n2 ≤ maxLen) (hz : a = none → n = 0 ∧ c = 0) (hz1 : a1 = none → n1 = 0 ∧ c1 = 0) (hz2 : a2 = none → n2 = 0 ∧ c2 = 0)
    (h : IsSps4 w a n S) (hw : ∀ i, i < n → (S i).wl.length ≤ maxLen) (ho : ∀ i, i < n → ∀ x ∈ (S i).wl, Ok64 x) (h1 : IsInts w a1 n1 f1) (o1 : ∀ i, i < n1 → Ok64 (f1 i)) (h2 : IsInts w a2 n2 f2) (o2 : ∀ i, i < n2 → Ok64 (f2 i)) :
    Calls Try.prog 3 #[.slice a n c, .slice a1 n1 c1, .slice a2 n2 c2] w fun e w' => e = .returned (.bool true) ∧ w.Since w.heap.size w' := by
  have HB := hid (bytes3_any w a a1 a2 n c n1 c1 n2 c2 S hn m1 m2 hw h)
  have H := hid h
  have HO := hid ho
  have O1 := hid o1
  have O2 := hid o2
  have H1 := hid h1
  have H2 := hid h2
  have Z0 := hid hz
  have Z1 := hid hz1
  have Z2 := hid hz2
  clear h hw ho o1 o2 h1 h2 hz hz1 hz2 hn m1 m2
  go_enter Try.func3, Try.ntmps3
  go_wp2_with fail
  refine Calls.mono HB.out ?_
  rintro e w' ⟨⟨r, rfl, hr⟩, rfl⟩
  clear HB
  cases r
  · clear hr
    go_wp2
    go_ret
    exact ⟨rfl, World.Since.refl _ _⟩
  have hsum := hr rfl
  clear hr
  have HW := hid (fun i (hi : i < n) => (show (S i).wl.length ≤ 1048576 from by have := tot_at S hi; omega))
  have hn : n ≤ 1048576 := by omega
  have m1 : n1 ≤ 1048576 := by omega
  have m2 : n2 ≤ 1048576 := by omega
  clear hsum
  go_wp2_with fail
  refine (fits_any w a a1 a2 n c n1 c1 n2 c2 S hn m1 m2 HW.out H.out).mono ?_
  rintro e w' ⟨⟨r, rfl, _⟩, rfl⟩
  cases r
  · go_wp2
    go_ret
    exact ⟨rfl, World.Since.refl _ _⟩
  go_wp2_with fail
  refine (cloneSpans_any w a n c S hn HW.out Z0.out H.out).mono ?_
  rintro e wb ⟨a', c', rfl, hz', _, hsb, hSb⟩
  have HSb := hid hSb
  have Z0' := hid hz'
  clear hSb hz'
  go_wp2_with fail
  refine (clone_any wb a1 n1 c1 f1 m1 Z1.out (H1.out.since hsb (Nat.le_refl _))).mono ?_
  rintro e wd ⟨p1, q1, rfl, hzp, _, hsd, hSd⟩
  have HP := hid hSd
  clear hSd hzp
  go_wp2_with fail
  refine (clone_any wd a2 n2 c2 f2 m2 Z2.out (H2.out.since (Since.step hsb hsd) (Nat.le_refl _))).mono ?_
  rintro e we ⟨p2, q2, rfl, hzp, _, hse, hSe⟩
  have HQ := hid hSe
  clear hSe hzp
  go_wp2_with fail
  refine (toZZ_any we a' n c' S hn ((HSb.out.since hsd (Nat.le_refl _)).since hse (Nat.le_refl _))).mono ?_
  rintro e wf ⟨rfl, hsf, hSf⟩
  have HF := hid hSf
  clear hSf
  go_wp2_with fail
  refine (zzLooked_any wf _ p1 p2 n n n1 q1 n2 q2 S f1 f2 hn m1 m2 (fun h => by cases h) HF.out HW.out HO.out ((HP.out.since hse (Nat.le_refl _)).since hsf (Nat.le_refl _)) O1.out (HQ.out.since hsf (Nat.le_refl _)) O2.out).mono ?_
  rintro e wg ⟨⟨ag, cg, rfl, hzg, hSg⟩, hsg⟩
  have hs0 : w.Since w.heap.size wg := Since.step (Since.step (Since.step (Since.step hsb hsd) hse) hsf) hsg
  have A0 := hid ((((HSb.out.since hsd (Nat.le_refl _)).since hse (Nat.le_refl _)).since hsf (Nat.le_refl _)).since hsg (Nat.le_refl _))
  have A1 := hid (((HP.out.since hse (Nat.le_refl _)).since hsf (Nat.le_refl _)).since hsg (Nat.le_refl _))
  have A2 := hid ((HQ.out.since hsf (Nat.le_refl _)).since hsg (Nat.le_refl _))
  have A3 := hid hSg
  clear HSb Z0' HP HQ HF hSg hzg hsb hsd hse hsf hsg H H1 H2 Z0 Z1 Z2 O1 O2 HO
  go_wp2
  have hm := lk_le (ls f1 n1) (ls f2 n2) (sl S n)
  rw [sl_len] at hm
  generalize hLdef : lk (ls f1 n1) (ls f2 n2) (sl S n) = L at A3 hm ⊢
  have HL := hid hLdef
  clear hLdef
  go_loopg [8, 9] n (fun g s8 s9 wr => ∃ k : Nat, k ≤ n ∧ g = n - k ∧ s9 = .int .i64 k ∧ s8 = .int .i64 ((lk (ls f1 n1) (ls f2 n2) (sl S k)).length : Int) ∧ wg.Since wg.heap.size wr)
  case atStart => exact ⟨0, Nat.zero_le _, rfl, rfl, rfl, World.Since.refl _ _⟩
  case round =>
    obtain ⟨k, hk, rfl, rfl, rfl, hS⟩ := hrel
    by_cases hlt : k < n
    · obtain ⟨b, off, rfl, hc⟩ := A0.out (by omega)
      have hzk : (k : Int) < (n : Int) := by omega
      have s := (hc k hlt).since hS (Nat.le_refl _)
      obtain ⟨hb, e0, e1, e2, wa, wc, e3, hwz, -, hwl⟩ := s
      have hwk := HW.out k hlt
      have HWL := hid hwl
      clear hc hwz hwl
      obtain ⟨j, hj⟩ : ∃ j, j = (lk (ls f1 n1) (ls f2 n2) (sl S k)).length := ⟨_, rfl⟩
      have HJ := hid hj
      have hjk : j ≤ k := by
        have := lk_le (ls f1 n1) (ls f2 n2) (sl S k)
        rw [sl_len] at this
        omega
      rw [← hj]
      clear hj
      obtain ⟨wx, hwx, hsx, hxl, x0, x1, x2, x3⟩ := box4 wr (S k) wa wc
      have HX := hid hwx
      clear hwx
      go_upto_region 14 with fail
      rw [← HX.out]
      clear e0 e1 e2 e3 HX
      have hgx := Since.step hS hsx
      go_wp2_with fail
      refine (watches_any wx wa p1 p2 (S k).wl.length n1 n2 wc q1 q2 _ f1 f2 hwk m1 m2 (HWL.out.since hsx (Nat.le_refl _)) (A1.out.since hgx (Nat.le_refl _)) (A2.out.since hgx (Nat.le_refl _))).mono ?_
      rw [ls_getD]
      rintro e w' ⟨rfl, rfl⟩
      cases hany : (S k).wl.any (bad (ls f1 n1) (ls f2 n2))
      · have hany' : ((S k).wl.any fun x => decide (x ∈ ls f1 n1) && !decide (x ∈ ls f2 n2)) = false := hany
        rw [hany']
        have HN := hid (lk_stay hany)
        have HA := hid (lk_at hlt hany)
        clear hany hany'
        have hA := HA.out
        rw [HL.out, ← HJ.out] at hA
        have hjL : j < L.length := (List.getElem?_eq_some_iff.1 hA).1
        have hjz : (j : Int) < (L.length : Int) := by omega
        have hjd : decide (L.length ≤ j) = false := decide_eq_false (by omega)
        obtain ⟨bg, og, rfl, hcg⟩ := A3.out (by omega)
        have eL : L.getD j default = thin (ls f2 n2) (S k) := by simp [List.getD, hA]
        have st := (hcg j hjL).since hgx (Nat.le_refl _)
        rw [show (fun i => L.getD i default) j = thin (ls f2 n2) (S k) from eL] at st
        obtain ⟨hbg, t0, t1, t2, t3, ga, gc, t4, -, -, hgl⟩ := st
        obtain ⟨wy, hwy, hsy, hyl, y0, y1, y3, y4⟩ := box5 wx (thin (ls f2 n2) (S k)) ga gc
        have HY := hid hwy
        have HG := hid (hgl.since hsy (Nat.le_refl _))
        have HF := hid (show (thin (ls f2 n2) (S k)).wl = (S k).wl.filter (fun x => !decide (x ∈ ls f2 n2)) from rfl)
        have v0 : wy.cell? ⟨wr.heap.size, 0, none⟩ = some (.int .i64 (S k).lo) := (hsy.cell (a := ⟨wr.heap.size, 0, none⟩) hxl).trans x0
        have v1 : wy.cell? ⟨wr.heap.size, 1, none⟩ = some (.int .i64 (S k).hi) := (hsy.cell (a := ⟨wr.heap.size, 1, none⟩) hxl).trans x1
        have v2 : wy.cell? ⟨wr.heap.size, 2, none⟩ = some (.int .i64 (S k).pend) := (hsy.cell (a := ⟨wr.heap.size, 2, none⟩) hxl).trans x2
        have v3 : wy.cell? ⟨wr.heap.size, 3, none⟩ = some (.slice wa (S k).wl.length wc) := (hsy.cell (a := ⟨wr.heap.size, 3, none⟩) hxl).trans x3
        have z0 : wy.cell? ⟨wx.heap.size, 0, none⟩ = some (.int .i64 (S k).lo) := y0
        have z1 : wy.cell? ⟨wx.heap.size, 1, none⟩ = some (.int .i64 (S k).hi) := y1
        have z3 : wy.cell? ⟨wx.heap.size, 3, none⟩ = some (.int .i64 (S k).pend) := y3
        have hgy := Since.step hgx hsy
        have HWL2 := hid ((HWL.out.since hsx (Nat.le_refl _)).since hsy (Nat.le_refl _))
        have HQ2 := hid (A2.out.since hgy (Nat.le_refl _))
        clear hA eL hcg hgl hwy hsy y0 y1 y3 x0 x1 x2 x3 HWL hsx A1 A2 A3 HA
        go_upto_region 18 with fail
        rw [← HY.out]
        clear HY t0 t1 t2 t3 t4
        generalize hGd : (thin (ls f2 n2) (S k)).wl = G at HF HG y4
        generalize hWd : (S k).wl = W at hwk v3 HF HWL2 ⊢
        have hGl : G.length ≤ W.length := by have := HF.out; rw [this]; exact List.length_filter_le _ _
        clear hGd hWd
        go_wp2
        go_loopg [12, 13] W.length (fun g s12 s13 wz => ∃ q : Nat, q ≤ W.length ∧ g = W.length - q ∧ s13 = .int .i64 q ∧ s12 = .int .i64 (cnt (fun x => !decide (x ∈ ls f2 n2)) W q : Int) ∧ wz = wy)
        case atStart => exact ⟨0, Nat.zero_le _, rfl, rfl, by rw [cnt_zero]; rfl, rfl⟩
        case round =>
          obtain ⟨q, hq, rfl, rfl, rfl, rfl⟩ := hrel
          have hcq := cnt_le (fun x => !decide (x ∈ ls f2 n2)) W q
          by_cases hql : q < W.length
          · obtain ⟨bw, ow, rfl, hbw, hcw⟩ := HWL2.out (by omega)
            have hzq : (q : Int) < (W.length : Int) := by omega
            have r0 := hcw q hql
            have eq : W.getD q 0 = W[q] := by simp [List.getD, hql]
            rw [show (fun i => W.getD i 0) q = W[q] from eq] at r0
            clear hcw eq
            cases hin : decide (W[q] ∈ ls f2 n2)
            · have hp : (fun x => !decide (x ∈ ls f2 n2)) W[q] = true := by simp only; rw [hin]; rfl
              have HC := hid (cnt_pos (fun x => !decide (x ∈ ls f2 n2)) W q hql hp)
              have hfa := filter_at (fun x => !decide (x ∈ ls f2 n2)) W q hql hp
              rw [← HF.out] at hfa
              have hcl := (List.getElem?_eq_some_iff.1 hfa).1
              obtain ⟨bz, oz, rfl, hbz, hcz⟩ := HG.out (by omega)
              have r1 := hcz _ hcl
              rw [show (fun i => G.getD i 0) (cnt (fun x => !decide (x ∈ ls f2 n2)) W q) = W[q] from by simp [List.getD, hfa]] at r1
              generalize cnt (fun x => !decide (x ∈ ls f2 n2)) W q = kk at HC hcl r1 hcq ⊢
              generalize W[q] = x at r0 r1 hin HC
              have HI := hid hin
              have hkz : (kk : Int) < (G.length : Int) := by omega
              clear hp hfa hcz hin
              go_wp2_with fail
              refine (inList_any _ p2 n2 q2 f2 x m2 HQ2.out).mono ?_
              rw [HI.out]
              rintro e w' ⟨rfl, rfl⟩
              go_wp2
              go_roundg (W.length - (q + 1))
              case measure => go_light; omega
              case rel => go_light; exact ⟨q + 1, by omega, rfl, by go_num, by rw [HC.out]; go_num, rfl⟩
            · have hp : (fun x => !decide (x ∈ ls f2 n2)) W[q] = false := by simp only; rw [hin]; rfl
              have HC := hid (cnt_neg (fun x => !decide (x ∈ ls f2 n2)) W q hql hp)
              generalize cnt (fun x => !decide (x ∈ ls f2 n2)) W q = kk at HC hcq ⊢
              generalize W[q] = x at r0 hin HC
              have HI := hid hin
              clear hp hin
              go_wp2_with fail
              refine (inList_any _ p2 n2 q2 f2 x m2 HQ2.out).mono ?_
              rw [HI.out]
              rintro e w' ⟨rfl, rfl⟩
              go_wp2
              go_roundg (W.length - (q + 1))
              case measure => go_light; omega
              case rel => go_light; exact ⟨q + 1, by omega, rfl, by go_num, by rw [HC.out], rfl⟩
          · obtain rfl : q = W.length := by omega
            have eC : cnt (fun x => !decide (x ∈ ls f2 n2)) W W.length = G.length := by rw [cnt_all, HF.out]
            rw [eC]
            clear eC hcq
            go_wp2
            go_roundg (n - (k + 1))
            case measure => go_light; omega
            case rel => go_light; exact ⟨k + 1, by omega, rfl, by go_num, by rw [HN.out, List.length_append, ← HJ.out]; go_num, hgy⟩
      · have hany' : ((S k).wl.any fun x => decide (x ∈ ls f1 n1) && !decide (x ∈ ls f2 n2)) = true := hany
        rw [hany']
        have HN := hid (lk_go hany)
        clear hany hany'
        go_wp2
        go_roundg (n - (k + 1))
        case measure => go_light; omega
        case rel => go_light; exact ⟨k + 1, by omega, rfl, by go_num, by rw [HN.out, ← HJ.out], hgx⟩
    · obtain rfl : k = n := by omega
      rw [HL.out]
      go_wp2
      go_ret
      exact ⟨rfl, Since.step hs0 hS⟩
end Go.Proofs.Qxb6600061a
