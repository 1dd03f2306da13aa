/-
  FnWatchedAfterPublishing: the walk (seat 061a).
-/
import Derived.Test.Qxb6600061aWatched
import Derived.Test.Qxb6600061aFits
import Derived.Test.Qxb6600061aClone
namespace Go.Proofs.Qxb6600061a
open Go.RowKit Go.Maps

theorem sl_getD (L : List Sp) : sl (fun i => L.getD i default) L.length = L := by
  unfold sl
  apply List.ext_getElem?
  intro i
  by_cases hi : i < L.length
  · simp [hi, List.getD]
  · simp [hi]

theorem flat_tot (S : Nat → Sp) (n : Nat) : (flat (sl S n)).length = tot S n := by
  induction n with
  | zero => rfl
  | succ n ih => rw [flat_succ, List.length_append, ih]; rfl

theorem flat_lk (pub : List Int) (l : List Sp) : flat (lk [] pub l) = (flat l).filter (fun x => !decide (x ∈ pub)) := by
  have h1 : stays [] pub = fun _ => true := by funext s; simp [stays, bad]
  unfold lk
  rw [h1]
  induction l with
  | nil => rfl
  | cons s r ih =>
    simp only [List.filter_cons_of_pos, List.map_cons] at ih ⊢
    show (thin pub s).wl ++ flat _ = (s.wl ++ flat r).filter _
    rw [List.filter_append, ih]
    rfl

set_option maxHeartbeats 3200000 in
set_option maxRecDepth 100000 in
theorem wap_walk (w : World) (a a2 : Option Addr) (n c n2 c2 : Nat) (S : Nat → Sp) (f2 : Nat → Int) (hn : n ≤ maxLen) (m2 : n2 ≤ maxLen) (hz : a = none → n = 0 ∧ c = 0) (hz2 : a2 = none → n2 = 0 ∧ c2 = 0)
    (h : IsSps4 w a n S) (hw : ∀ i, i < n → (S i).wl.length ≤ maxLen) (ho : ∀ i, i < n → ∀ x ∈ (S i).wl, Ok64 x) (h2 : IsInts w a2 n2 f2) (o2 : ∀ i, i < n2 → Ok64 (f2 i)) :
    Calls Try.prog 7 #[.slice a n c, .slice a2 n2 c2] w fun e w' => e = .returned (.bool true) ∧ w.Since w.heap.size w' := by
  have HB := hid (bytes7_any w a a2 n c n2 c2 S hn m2 hw h)
  have H := hid h
  have HO := hid ho
  have O2 := hid o2
  have H2 := hid h2
  have Z0 := hid hz
  have Z2 := hid hz2
  clear h hw ho o2 h2 hz hz2 hn m2
  go_enter Try.func7, Try.ntmps7
  go_wp2_with fail
  refine Calls.mono HB.out ?_
  rintro e w' ⟨⟨r, rfl, hr⟩, rfl⟩
  clear HB
  cases r
  · clear hr
    go_wp2
    go_ret
    exact ⟨rfl, World.Since.refl _ _⟩
  have hsum := hr rfl
  clear hr
  have HW := hid (fun i (hi : i < n) => (show (S i).wl.length ≤ 1048576 from by have := tot_at S hi; omega))
  have hA : (flat (sl S n)).length ≤ 1048576 := by rw [flat_tot]; omega
  have hn : n ≤ 1048576 := by omega
  have m2 : n2 ≤ 1048576 := by omega
  clear hsum
  go_wp2_with fail
  refine (fits_any w a none a2 n c 0 0 n2 c2 S hn (by omega) m2 HW.out H.out).mono ?_
  rintro e w' ⟨⟨r, rfl, _⟩, rfl⟩
  cases r
  · go_wp2
    go_ret
    exact ⟨rfl, World.Since.refl _ _⟩
  go_wp2_with fail
  refine (cloneSpans_any w a n c S hn HW.out Z0.out H.out).mono ?_
  rintro e wb ⟨a', c', rfl, hz', _, hsb, hSb⟩
  have HSb := hid hSb
  clear hSb hz'
  go_wp2_with fail
  refine (clone_any wb a2 n2 c2 f2 m2 Z2.out (H2.out.since hsb (Nat.le_refl _))).mono ?_
  rintro e we ⟨p2, q2, rfl, hzp, _, hse, hSe⟩
  have HQ := hid hSe
  clear hSe hzp
  go_wp2_with fail
  refine (toZZ_any we a' n c' S hn (HSb.out.since hse (Nat.le_refl _))).mono ?_
  rintro e wf ⟨rfl, hsf, hSf⟩
  have HF := hid hSf
  clear hSf
  go_wp2_with fail
  refine (zzLooked_any wf _ none p2 n n 0 0 n2 q2 S (fun _ => 0) f2 hn (by omega) m2 (fun h => by cases h) HF.out HW.out HO.out (fun h => absurd h (by omega)) (fun i hi => absurd hi (by omega)) (HQ.out.since hsf (Nat.le_refl _)) O2.out).mono ?_
  rintro e wg ⟨⟨ag, cg, rfl, hzg, hSg⟩, hsg⟩
  have HG := hid hSg
  have HZG := hid hzg
  have hm := lk_le (ls (fun _ => 0) 0) (ls f2 n2) (sl S n)
  rw [sl_len] at hm
  have hLdef : lk (ls (fun _ => 0) 0) (ls f2 n2) (sl S n) = lk [] (ls f2 n2) (sl S n) := rfl
  have hfl : flat (lk (ls (fun _ => 0) 0) (ls f2 n2) (sl S n)) = (flat (sl S n)).filter (fun x => !decide (x ∈ ls f2 n2)) := flat_lk _ _
  generalize lk (ls (fun _ => 0) 0) (ls f2 n2) (sl S n) = L at HG HZG hm hfl ⊢
  clear hSg hzg hLdef
  have HFL := hid hfl
  have hGl : (flat L).length ≤ 1048576 := by rw [hfl]; exact Nat.le_trans (List.length_filter_le _ _) hA
  clear hfl
  go_wp2_with fail
  refine (zzWatched_any wg ag L.length cg _ (Nat.le_trans hm hn) (by rw [sl_getD]; exact hGl) HZG.out HG.out).mono ?_
  rw [sl_getD]
  rintro e wh ⟨⟨a5, c5, rfl, hL5⟩, hsh⟩
  have HL5 := hid hL5
  clear hL5
  go_wp2_with fail
  refine (zzWatched_any wh _ n n S hn hA (fun h => by cases h) ((HF.out.since hsg (Nat.le_refl _)).since hsh (Nat.le_refl _))).mono ?_
  rintro e wi ⟨⟨a6, c6, rfl, hL6⟩, hsi⟩
  have hs0 : w.Since w.heap.size wi := Since.step (Since.step (Since.step (Since.step (Since.step hsb hse) hsf) hsg) hsh) hsi
  have B5 := hid (HL5.out.since hsi (Nat.le_refl _))
  have B6 := hid hL6
  have B2 := hid (((HQ.out.since hsf (Nat.le_refl _)).since hsg (Nat.le_refl _)).since (Since.step hsh hsi) (Nat.le_refl _))
  clear HSb HQ HF HG HZG HL5 hL6 hsb hse hsf hsg hsh hsi H H2 Z0 Z2 O2 HO HW
  generalize flat (sl S n) = A at hA HFL B6 ⊢
  generalize flat L = G at hGl HFL B5 ⊢
  have hGA : G.length ≤ A.length := by rw [HFL.out]; exact List.length_filter_le _ _
  go_wp2
  go_loopg [8, 9] A.length (fun g s8 s9 wr => ∃ q : Nat, q ≤ A.length ∧ g = A.length - q ∧ s9 = .int .i64 q ∧ s8 = .int .i64 (cnt (fun x => !decide (x ∈ ls f2 n2)) A q : Int) ∧ wi.Since wi.heap.size wr)
  case atStart => exact ⟨0, Nat.zero_le _, rfl, rfl, by rw [cnt_zero]; rfl, World.Since.refl _ _⟩
  case round =>
    obtain ⟨q, hq, rfl, rfl, rfl, hS⟩ := hrel
    have hcq := cnt_le (fun x => !decide (x ∈ ls f2 n2)) A q
    by_cases hql : q < A.length
    · obtain ⟨bw, ow, rfl, hbw, hcw⟩ := B6.out (by omega)
      have hzq : (q : Int) < (A.length : Int) := by omega
      have r0 := (hS.cell (a := ⟨bw, ow + q, none⟩) hbw).trans (hcw q hql)
      rw [show (fun i => A.getD i 0) q = A[q] from by simp [List.getD, hql]] at r0
      clear hcw
      cases hin : decide (A[q] ∈ ls f2 n2)
      · have hp : (fun x => !decide (x ∈ ls f2 n2)) A[q] = true := by simp only; rw [hin]; rfl
        have HC := hid (cnt_pos (fun x => !decide (x ∈ ls f2 n2)) A q hql hp)
        have hfa := filter_at (fun x => !decide (x ∈ ls f2 n2)) A q hql hp
        rw [← HFL.out] at hfa
        have hcl := (List.getElem?_eq_some_iff.1 hfa).1
        obtain ⟨bz, oz, rfl, hbz, hcz⟩ := B5.out (by omega)
        have r1 := (hS.cell (a := ⟨bz, oz + _, none⟩) hbz).trans (hcz _ hcl)
        rw [show (fun i => G.getD i 0) (cnt (fun x => !decide (x ∈ ls f2 n2)) A q) = A[q] from by simp [List.getD, hfa]] at r1
        generalize cnt (fun x => !decide (x ∈ ls f2 n2)) A q = kk at HC hcl r1 hcq ⊢
        generalize A[q] = x at r0 r1 hin HC
        have HI := hid hin
        have hkz : (kk : Int) < (G.length : Int) := by omega
        have hkd : decide (G.length ≤ kk) = false := decide_eq_false (by omega)
        have hxx : (x != x) = false := by simp
        clear hp hfa hcz hin
        go_wp2_with fail
        refine (inList_any _ p2 n2 q2 f2 x m2 (B2.out.since hS (Nat.le_refl _))).mono ?_
        rw [HI.out]
        rintro e w' ⟨rfl, rfl⟩
        go_wp2
        go_quiet (fail)
        go_wp2
        go_roundg (A.length - (q + 1))
        case measure => go_light; omega
        case rel => go_light; exact ⟨q + 1, by omega, rfl, by go_num, by rw [HC.out]; go_num, by first | exact hS | exact Since.drewN hS _ | exact hS.drew⟩
      · have hp : (fun x => !decide (x ∈ ls f2 n2)) A[q] = false := by simp only; rw [hin]; rfl
        have HC := hid (cnt_neg (fun x => !decide (x ∈ ls f2 n2)) A q hql hp)
        generalize cnt (fun x => !decide (x ∈ ls f2 n2)) A q = kk at HC hcq ⊢
        generalize A[q] = x at r0 hin HC
        have HI := hid hin
        clear hp hin
        go_wp2_with fail
        refine (inList_any _ p2 n2 q2 f2 x m2 (B2.out.since hS (Nat.le_refl _))).mono ?_
        rw [HI.out]
        rintro e w' ⟨rfl, rfl⟩
        go_wp2
        go_roundg (A.length - (q + 1))
        case measure => go_light; omega
        case rel => go_light; exact ⟨q + 1, by omega, rfl, by go_num, by rw [HC.out], hS⟩
    · obtain rfl : q = A.length := by omega
      have eC : cnt (fun x => !decide (x ∈ ls f2 n2)) A A.length = G.length := by rw [cnt_all, HFL.out]
      rw [eC]
      clear eC hcq
      go_wp2
      go_ret
      exact ⟨rfl, Since.step hs0 hS⟩
end Go.Proofs.Qxb6600061a
