import Derived.Test.Qxb6600184aFits
namespace Go.Proofs.Qxb6600184a
open Go.RowKit
set_option maxHeartbeats 800000 in
theorem fits_loops (v : Int) (b1 o1 : Nat) (a2 a3 a4 : Option Addr) (n1 n2 n4 c1 c2 c3 c4 : Nat) (f1 f2 f4 : Nat → Int) (w : World)
    (k1 : n1 ≤ 65536) (k2 : n2 ≤ 65536) (k4 : n4 ≤ 65536) (k5 : 8 * (n1 + n2 + n2 + n4) ≤ 1048576) (k6 : 0 ≤ v) (k7 : v ≤ 65536) (k8 : 0 < n1)
    (hb1 : b1 < w.heap.size) (g : ∀ i, i < n1 → w.cell? ⟨b1, o1 + i, none⟩ = some (.int .i64 (f1 i)))
    (h2 : IsInts w .i64 a2 n2 f2) (h4 : IsInts w .i64 a4 n4 f4)
    (h : f1 0 = 0 ∧ f1 (n1 - 1) = n2) :
    Calls Try.prog 20 #[.int .i64 v, .slice (some ⟨b1, o1, none⟩) n1 c1, .slice a2 n2 c2, .slice a3 n2 c3, .slice a4 n4 c4] w (FitsPost v n1 n2 n2 n4 f1 f2 f4 w) := by
  have k8' : ((n1 : Int) == 0) = false := by simp; omega
  have g0 : w.cell? ⟨b1, o1, none⟩ = some (.int .i64 (f1 0)) := g 0 k8
  have g1 : w.cell? ⟨b1, o1 + (n1 - 1), none⟩ = some (.int .i64 (f1 (n1 - 1))) := g (n1 - 1) (by omega)
  have k9 : (f1 0 != 0) = false := by simp [h.1]
  have k10 : (f1 (n1 - 1) != (n2 : Int)) = false := by simp [h.2]
  have k11 : ((n2 : Int) != (n2 : Int)) = false := by simp
  have H : Hid (f1 0 = 0 ∧ f1 (n1 - 1) = n2) := h
  have G : Hid (∀ i, i < n1 → w.cell? ⟨b1, o1 + i, none⟩ = some (.int .i64 (f1 i))) := g
  clear h g
  go_enter Try.func20, Try.ntmps20
  go_wp2
  clear g0 g1 k9 k10 k11 k8'
  go_loopg [11] (n1 - 1) (fun g i wr => ∃ k : Nat, 1 ≤ k ∧ k ≤ n1 ∧ g = n1 - k ∧ i = .int .i64 k ∧ w.Since w.heap.size wr ∧ Hid (∀ s, s + 1 < k → f1 s ≤ f1 (s + 1)))
  case atStart => exact ⟨1, Nat.le_refl _, by omega, by omega, rfl, World.Since.refl _ _, fun s hs => by omega⟩
  case round =>
    obtain ⟨k, hk1, hk, hgk, rfl, hS, hm⟩ := hrel
    by_cases hlt : k < n1
    · have hz : (k : Int) < (n1 : Int) := by omega
      have g2 : wr.cell? ⟨b1, o1 + k, none⟩ = some (.int .i64 (f1 k)) := (hS.cell (a := ⟨b1, o1 + k, none⟩) hb1).trans (G.out k hlt)
      have g3 : wr.cell? ⟨b1, o1 + (k - 1), none⟩ = some (.int .i64 (f1 (k - 1))) := (hS.cell (a := ⟨b1, o1 + (k - 1), none⟩) hb1).trans (G.out (k - 1) (by omega))
      by_cases ht : f1 k < f1 (k - 1)
      · go_wp2
        go_quiet (fail)
        go_wp2
        go_ret
        exact ⟨false, rfl, (fun h => by cases h), Since.drewN hS _⟩
      · go_wp2
        go_quiet (fail)
        go_wp2
        go_roundg (n1 - (k + 1))
        case measure => go_light; omega
        case rel =>
          go_light
          refine ⟨k + 1, by omega, by omega, rfl, by go_num, Since.drewN hS _, fun s hs => ?_⟩
          by_cases e : s + 1 = k
          · subst e; simp at ht ⊢; omega
          · exact hm.out s (by omega)
    · have HM : Hid (∀ s, s + 1 < n1 → f1 s ≤ f1 (s + 1)) := fun s hs => hm.out s (by omega)
      clear hm G
      go_wp2
      go_loopg [12] n2 (fun g i wx => ∃ j : Nat, j ≤ n2 ∧ g = n2 - j ∧ i = .int .i64 j ∧ w.Since w.heap.size wx ∧ Hid (∀ i, i < j → 0 ≤ f2 i ∧ f2 i < v))
      case atStart => exact ⟨0, Nat.zero_le _, rfl, rfl, hS, fun i hi => by omega⟩
      case round =>
        obtain ⟨j, hj, hgj, rfl, hS2, hi2⟩ := hrel
        clear hS
        by_cases hlt2 : j < n2
        · obtain ⟨b, off, rfl, hb, hc⟩ := h2 (by omega)
          have hz : (j : Int) < (n2 : Int) := by omega
          have g2 : wr.cell? ⟨b, off + j, none⟩ = some (.int .i64 (f2 j)) := (hS2.cell (a := ⟨b, off + j, none⟩) hb).trans (hc j hlt2)
          clear hc
          by_cases t1 : f2 j < 0
          · go_wp2
            go_ret
            exact ⟨false, rfl, (fun h => by cases h), hS2⟩
          · by_cases t2 : v ≤ f2 j
            · go_wp2
              go_ret
              exact ⟨false, rfl, (fun h => by cases h), hS2⟩
            · go_wp2
              go_roundg (n2 - (j + 1))
              case measure => go_light; omega
              case rel =>
                go_light
                refine ⟨j + 1, by omega, rfl, by go_num, hS2, fun i hi => ?_⟩
                by_cases e : i = j
                · subst e; omega
                · exact hi2.out i (by omega)
        · have HI : Hid (∀ i, i < n2 → 0 ≤ f2 i ∧ f2 i < v) := fun i hi => hi2.out i (by omega)
          clear hi2
          go_wp2
          go_loopg [13] n4 (fun g i wx => ∃ j : Nat, j ≤ n4 ∧ g = n4 - j ∧ i = .int .i64 j ∧ w.Since w.heap.size wx ∧ Hid (∀ i, i < j → 0 ≤ f4 i ∧ f4 i < v))
          case atStart => exact ⟨0, Nat.zero_le _, rfl, rfl, hS2, fun i hi => by omega⟩
          case round =>
            obtain ⟨j4, hj4, hgj4, rfl, hS4, hi4⟩ := hrel
            clear hS2
            by_cases hlt4 : j4 < n4
            · obtain ⟨b, off, rfl, hb, hc⟩ := h4 (by omega)
              have hz : (j4 : Int) < (n4 : Int) := by omega
              have g2 : wr.cell? ⟨b, off + j4, none⟩ = some (.int .i64 (f4 j4)) := (hS4.cell (a := ⟨b, off + j4, none⟩) hb).trans (hc j4 hlt4)
              clear hc
              by_cases t1 : f4 j4 < 0
              · go_wp2
                go_ret
                exact ⟨false, rfl, (fun h => by cases h), hS4⟩
              · by_cases t2 : v ≤ f4 j4
                · go_wp2
                  go_ret
                  exact ⟨false, rfl, (fun h => by cases h), hS4⟩
                · go_wp2
                  go_roundg (n4 - (j4 + 1))
                  case measure => go_light; omega
                  case rel =>
                    go_light
                    refine ⟨j4 + 1, by omega, rfl, by go_num, hS4, fun i hi => ?_⟩
                    by_cases e : i = j4
                    · subst e; omega
                    · exact hi4.out i (by omega)
            · go_wp2
              go_ret
              exact ⟨true, rfl, (fun _ => ⟨k1, k2, k4, k6, k7, k8, H.out.1, H.out.2, rfl, HM.out, HI.out, fun i hi => hi4.out i (by omega)⟩), hS4⟩

theorem fits_any (v : Int) (a1 a2 a3 a4 : Option Addr) (n1 n2 n3 n4 c1 c2 c3 c4 : Nat) (f1 f2 f4 : Nat → Int) (w : World) (m1 : n1 ≤ maxLen) (m2 : n2 ≤ maxLen) (m3 : n3 ≤ maxLen) (m4 : n4 ≤ maxLen)
    (h1 : IsInts w .i64 a1 n1 f1) (h2 : IsInts w .i64 a2 n2 f2) (h4 : IsInts w .i64 a4 n4 f4) :
    Calls Try.prog 20 #[.int .i64 v, .slice a1 n1 c1, .slice a2 n2 c2, .slice a3 n3 c3, .slice a4 n4 c4] w (FitsPost v n1 n2 n3 n4 f1 f2 f4 w) := by
  by_cases h : n1 ≤ 65536 ∧ n2 ≤ 65536 ∧ n3 ≤ 65536 ∧ n4 ≤ 65536
  case neg => exact fits_sizes v a1 a2 a3 a4 n1 n2 n3 n4 c1 c2 c3 c4 f1 f2 f4 w m1 m2 m3 m4 h
  obtain ⟨k1, k2, k3, k4⟩ := h
  by_cases h : 8 * (n1 + n2 + n3 + n4) ≤ 1048576 ∧ 0 ≤ v ∧ v ≤ 65536 ∧ 0 < n1
  case neg => exact fits_sum v a1 a2 a3 a4 n1 n2 n3 n4 c1 c2 c3 c4 f1 f2 f4 w k1 k2 k3 k4 h
  obtain ⟨k5, k6, k7, k8⟩ := h
  obtain ⟨b1, o1, rfl, hb1, hc⟩ := h1 k8
  by_cases h : f1 0 = 0 ∧ f1 (n1 - 1) = n2 ∧ n3 = n2
  case neg => exact fits_ends v b1 o1 a2 a3 a4 n1 n2 n3 n4 c1 c2 c3 c4 f1 f2 f4 w k1 k2 k3 k4 k5 k6 k7 k8 (hc 0 k8) (hc (n1 - 1) (by omega)) h
  obtain ⟨e1, e2, rfl⟩ := h
  exact fits_loops v b1 o1 a2 a3 a4 n1 n3 n4 c1 c2 c3 c4 f1 f2 f4 w k1 k2 k4 k5 k6 k7 k8 hb1 hc h2 h4 ⟨e1, e2⟩
end Go.Proofs.Qxb6600184a
