/-
  FnNumberRefusesDanglingPart, walked: the early ways out, and all together.
-/
import Derived.Test.Qxb6600039aDang1
import Derived.Test.Qxb6600039aDang2
import Derived.Test.Qxb6600039aDang3
namespace Go.Proofs.Qxb6600039a
open Go.RowKit Sc
set_option linter.unusedVariables false

set_option maxRecDepth 100000 in
set_option maxHeartbeats 1600000 in
theorem dangL2 (ng hb : Bool) (u sh b : Int) (a2 a3 a7 : Option Addr) (n2 n3 n7 c2 c3 c7 : Nat) (w : World) (h2 : n2 ≤ maxLen) (h3 : n3 ≤ maxLen) (h7 : n7 ≤ maxLen) (s0 : 0 ≤ sh) (s255 : sh ≤ 255) (g2 : 65536 < n2) :
    Calls Try.prog 7 #[.bool ng, .int .u64 u, .slice a2 n2 c2, .slice a3 n3 c3, .int .u8 sh, .int .u8 b, .bool hb, .slice a7 n7 c7] w fun e w' => e = .returned (.bool true) ∧ w.Since w.heap.size w' := by
  unfold maxLen at h2 h3 h7
  go_enter Try.func7, Try.ntmps7
  go_wp2_with fail
  refine (zzNumber _ _ _ _ _ _ _ _ _ _ _ _ _ _ _ (by unfold maxLen; omega) (by unfold maxLen; omega) (by unfold maxLen; omega)).mono ?_
  rintro e w1 ⟨⟨r, rfl⟩, s1⟩
  cases r
  · go_wp2
    go_ret
    exact ⟨rfl, s1⟩
  go_wp2
  go_ret
  exact ⟨rfl, s1⟩
set_option maxRecDepth 100000 in
set_option maxHeartbeats 1600000 in
theorem dangL3 (ng hb : Bool) (u sh b : Int) (a2 a3 a7 : Option Addr) (n2 n3 n7 c2 c3 c7 : Nat) (w : World) (h2 : n2 ≤ maxLen) (h3 : n3 ≤ maxLen) (h7 : n7 ≤ maxLen) (s0 : 0 ≤ sh) (s255 : sh ≤ 255) (g2 : n2 ≤ 65536) (g3 : 65536 < n3) :
    Calls Try.prog 7 #[.bool ng, .int .u64 u, .slice a2 n2 c2, .slice a3 n3 c3, .int .u8 sh, .int .u8 b, .bool hb, .slice a7 n7 c7] w fun e w' => e = .returned (.bool true) ∧ w.Since w.heap.size w' := by
  unfold maxLen at h2 h3 h7
  go_enter Try.func7, Try.ntmps7
  go_wp2_with fail
  refine (zzNumber _ _ _ _ _ _ _ _ _ _ _ _ _ _ _ (by unfold maxLen; omega) (by unfold maxLen; omega) (by unfold maxLen; omega)).mono ?_
  rintro e w1 ⟨⟨r, rfl⟩, s1⟩
  cases r
  · go_wp2
    go_ret
    exact ⟨rfl, s1⟩
  go_wp2
  go_ret
  exact ⟨rfl, s1⟩
set_option maxRecDepth 100000 in
set_option maxHeartbeats 1600000 in
theorem dangL7 (ng hb : Bool) (u sh b : Int) (a2 a3 a7 : Option Addr) (n2 n3 n7 c2 c3 c7 : Nat) (w : World) (h2 : n2 ≤ maxLen) (h3 : n3 ≤ maxLen) (h7 : n7 ≤ maxLen) (s0 : 0 ≤ sh) (s255 : sh ≤ 255) (g2 : n2 ≤ 65536) (g3 : n3 ≤ 65536) (g7 : 65536 < n7) :
    Calls Try.prog 7 #[.bool ng, .int .u64 u, .slice a2 n2 c2, .slice a3 n3 c3, .int .u8 sh, .int .u8 b, .bool hb, .slice a7 n7 c7] w fun e w' => e = .returned (.bool true) ∧ w.Since w.heap.size w' := by
  unfold maxLen at h2 h3 h7
  go_enter Try.func7, Try.ntmps7
  go_wp2_with fail
  refine (zzNumber _ _ _ _ _ _ _ _ _ _ _ _ _ _ _ (by unfold maxLen; omega) (by unfold maxLen; omega) (by unfold maxLen; omega)).mono ?_
  rintro e w1 ⟨⟨r, rfl⟩, s1⟩
  cases r
  · go_wp2
    go_ret
    exact ⟨rfl, s1⟩
  go_wp2
  go_ret
  exact ⟨rfl, s1⟩
set_option maxRecDepth 100000 in
set_option maxHeartbeats 1600000 in
theorem dangD0 (ng hb : Bool) (u sh b : Int) (a2 a3 a7 : Option Addr) (n2 n3 n7 c2 c3 c7 : Nat) (w : World) (h2 : n2 ≤ maxLen) (h3 : n3 ≤ maxLen) (h7 : n7 ≤ maxLen) (s0 : 0 ≤ sh) (s255 : sh ≤ 255) (g2 : n2 ≤ 65536) (g3 : n3 ≤ 65536) (g7 : n7 ≤ 65536) (hbt : hb = true) (hk : sh % 4 = 0) (q1 : dig b = true) :
    Calls Try.prog 7 #[.bool ng, .int .u64 u, .slice a2 n2 c2, .slice a3 n3 c3, .int .u8 sh, .int .u8 b, .bool hb, .slice a7 n7 c7] w fun e w' => e = .returned (.bool true) ∧ w.Since w.heap.size w' := by
  subst hbt
  unfold maxLen at h2 h3 h7
  go_enter Try.func7, Try.ntmps7
  go_wp2_with fail
  refine (zzNumber _ _ _ _ _ _ _ _ _ _ _ _ _ _ _ (by unfold maxLen; omega) (by unfold maxLen; omega) (by unfold maxLen; omega)).mono ?_
  rintro e w1 ⟨⟨r, rfl⟩, s1⟩
  cases r
  · go_wp2
    go_ret
    exact ⟨rfl, s1⟩
  go_wp2_with fail
  refine (jdig_any b _).mono ?_
  rw [q1]
  rintro e w' ⟨rfl, rfl⟩
  go_wp2
  go_ret
  exact ⟨rfl, s1⟩
set_option maxRecDepth 100000 in
set_option maxHeartbeats 1600000 in
theorem dangD1 (ng hb : Bool) (u sh b : Int) (a2 a3 a7 : Option Addr) (n2 n3 n7 c2 c3 c7 : Nat) (w : World) (h2 : n2 ≤ maxLen) (h3 : n3 ≤ maxLen) (h7 : n7 ≤ maxLen) (s0 : 0 ≤ sh) (s255 : sh ≤ 255) (g2 : n2 ≤ 65536) (g3 : n3 ≤ 65536) (g7 : n7 ≤ 65536) (hbt : hb = true) (hk : sh % 4 = 1) (q1 : dig b = true) :
    Calls Try.prog 7 #[.bool ng, .int .u64 u, .slice a2 n2 c2, .slice a3 n3 c3, .int .u8 sh, .int .u8 b, .bool hb, .slice a7 n7 c7] w fun e w' => e = .returned (.bool true) ∧ w.Since w.heap.size w' := by
  subst hbt
  unfold maxLen at h2 h3 h7
  go_enter Try.func7, Try.ntmps7
  go_wp2_with fail
  refine (zzNumber _ _ _ _ _ _ _ _ _ _ _ _ _ _ _ (by unfold maxLen; omega) (by unfold maxLen; omega) (by unfold maxLen; omega)).mono ?_
  rintro e w1 ⟨⟨r, rfl⟩, s1⟩
  cases r
  · go_wp2
    go_ret
    exact ⟨rfl, s1⟩
  go_wp2_with fail
  refine (jdig_any b _).mono ?_
  rw [q1]
  rintro e w' ⟨rfl, rfl⟩
  go_wp2
  go_ret
  exact ⟨rfl, s1⟩
set_option maxRecDepth 100000 in
set_option maxHeartbeats 1600000 in
theorem dangD2 (ng hb : Bool) (u sh b : Int) (a2 a3 a7 : Option Addr) (n2 n3 n7 c2 c3 c7 : Nat) (w : World) (h2 : n2 ≤ maxLen) (h3 : n3 ≤ maxLen) (h7 : n7 ≤ maxLen) (s0 : 0 ≤ sh) (s255 : sh ≤ 255) (g2 : n2 ≤ 65536) (g3 : n3 ≤ 65536) (g7 : n7 ≤ 65536) (hbt : hb = true) (hk : sh % 4 = 2) (q1 : dig b = true) :
    Calls Try.prog 7 #[.bool ng, .int .u64 u, .slice a2 n2 c2, .slice a3 n3 c3, .int .u8 sh, .int .u8 b, .bool hb, .slice a7 n7 c7] w fun e w' => e = .returned (.bool true) ∧ w.Since w.heap.size w' := by
  subst hbt
  unfold maxLen at h2 h3 h7
  go_enter Try.func7, Try.ntmps7
  go_wp2_with fail
  refine (zzNumber _ _ _ _ _ _ _ _ _ _ _ _ _ _ _ (by unfold maxLen; omega) (by unfold maxLen; omega) (by unfold maxLen; omega)).mono ?_
  rintro e w1 ⟨⟨r, rfl⟩, s1⟩
  cases r
  · go_wp2
    go_ret
    exact ⟨rfl, s1⟩
  go_wp2_with fail
  refine (jdig_any b _).mono ?_
  rw [q1]
  rintro e w' ⟨rfl, rfl⟩
  go_wp2
  go_ret
  exact ⟨rfl, s1⟩
set_option maxRecDepth 100000 in
set_option maxHeartbeats 1600000 in
theorem dangD3 (ng hb : Bool) (u sh b : Int) (a2 a3 a7 : Option Addr) (n2 n3 n7 c2 c3 c7 : Nat) (w : World) (h2 : n2 ≤ maxLen) (h3 : n3 ≤ maxLen) (h7 : n7 ≤ maxLen) (s0 : 0 ≤ sh) (s255 : sh ≤ 255) (g2 : n2 ≤ 65536) (g3 : n3 ≤ 65536) (g7 : n7 ≤ 65536) (hbt : hb = true) (hk : sh % 4 = 3) (q1 : dig b = true) :
    Calls Try.prog 7 #[.bool ng, .int .u64 u, .slice a2 n2 c2, .slice a3 n3 c3, .int .u8 sh, .int .u8 b, .bool hb, .slice a7 n7 c7] w fun e w' => e = .returned (.bool true) ∧ w.Since w.heap.size w' := by
  subst hbt
  unfold maxLen at h2 h3 h7
  go_enter Try.func7, Try.ntmps7
  go_wp2_with fail
  refine (zzNumber _ _ _ _ _ _ _ _ _ _ _ _ _ _ _ (by unfold maxLen; omega) (by unfold maxLen; omega) (by unfold maxLen; omega)).mono ?_
  rintro e w1 ⟨⟨r, rfl⟩, s1⟩
  cases r
  · go_wp2
    go_ret
    exact ⟨rfl, s1⟩
  go_wp2_with fail
  refine (jdig_any b _).mono ?_
  rw [q1]
  rintro e w' ⟨rfl, rfl⟩
  go_wp2
  go_ret
  exact ⟨rfl, s1⟩
set_option maxRecDepth 100000 in
set_option maxHeartbeats 1600000 in
theorem dangM0 (ng hb : Bool) (u sh b : Int) (a2 a3 a7 : Option Addr) (n2 n3 n7 c2 c3 c7 : Nat) (w : World) (h2 : n2 ≤ maxLen) (h3 : n3 ≤ maxLen) (h7 : n7 ≤ maxLen) (s0 : 0 ≤ sh) (s255 : sh ≤ 255) (g2 : n2 ≤ 65536) (g3 : n3 ≤ 65536) (g7 : n7 ≤ 65536) (hbt : hb = true) (hk : sh % 4 = 0) (q1 : dig b = false) (hng : ng = false) (q2 : (b == 45) = true) :
    Calls Try.prog 7 #[.bool ng, .int .u64 u, .slice a2 n2 c2, .slice a3 n3 c3, .int .u8 sh, .int .u8 b, .bool hb, .slice a7 n7 c7] w fun e w' => e = .returned (.bool true) ∧ w.Since w.heap.size w' := by
  subst hng
  subst hbt
  unfold maxLen at h2 h3 h7
  go_enter Try.func7, Try.ntmps7
  go_wp2_with fail
  refine (zzNumber _ _ _ _ _ _ _ _ _ _ _ _ _ _ _ (by unfold maxLen; omega) (by unfold maxLen; omega) (by unfold maxLen; omega)).mono ?_
  rintro e w1 ⟨⟨r, rfl⟩, s1⟩
  cases r
  · go_wp2
    go_ret
    exact ⟨rfl, s1⟩
  go_wp2_with fail
  refine (jdig_any b _).mono ?_
  rw [q1]
  rintro e w' ⟨rfl, rfl⟩
  go_wp2
  go_ret
  exact ⟨rfl, s1⟩
set_option maxRecDepth 100000 in
set_option maxHeartbeats 1600000 in
theorem dangP2 (ng hb : Bool) (u sh b : Int) (a2 a3 a7 : Option Addr) (n2 n3 n7 c2 c3 c7 : Nat) (w : World) (h2 : n2 ≤ maxLen) (h3 : n3 ≤ maxLen) (h7 : n7 ≤ maxLen) (s0 : 0 ≤ sh) (s255 : sh ≤ 255) (g2 : n2 ≤ 65536) (g3 : n3 ≤ 65536) (g7 : n7 ≤ 65536) (hbt : hb = true) (hk : sh % 4 = 2) (q1 : dig b = false) (q2 : (b == 43) = true) :
    Calls Try.prog 7 #[.bool ng, .int .u64 u, .slice a2 n2 c2, .slice a3 n3 c3, .int .u8 sh, .int .u8 b, .bool hb, .slice a7 n7 c7] w fun e w' => e = .returned (.bool true) ∧ w.Since w.heap.size w' := by
  subst hbt
  unfold maxLen at h2 h3 h7
  go_enter Try.func7, Try.ntmps7
  go_wp2_with fail
  refine (zzNumber _ _ _ _ _ _ _ _ _ _ _ _ _ _ _ (by unfold maxLen; omega) (by unfold maxLen; omega) (by unfold maxLen; omega)).mono ?_
  rintro e w1 ⟨⟨r, rfl⟩, s1⟩
  cases r
  · go_wp2
    go_ret
    exact ⟨rfl, s1⟩
  go_wp2_with fail
  refine (jdig_any b _).mono ?_
  rw [q1]
  rintro e w' ⟨rfl, rfl⟩
  go_wp2
  go_ret
  exact ⟨rfl, s1⟩
set_option maxRecDepth 100000 in
set_option maxHeartbeats 1600000 in
theorem dangM2 (ng hb : Bool) (u sh b : Int) (a2 a3 a7 : Option Addr) (n2 n3 n7 c2 c3 c7 : Nat) (w : World) (h2 : n2 ≤ maxLen) (h3 : n3 ≤ maxLen) (h7 : n7 ≤ maxLen) (s0 : 0 ≤ sh) (s255 : sh ≤ 255) (g2 : n2 ≤ 65536) (g3 : n3 ≤ 65536) (g7 : n7 ≤ 65536) (hbt : hb = true) (hk : sh % 4 = 2) (q1 : dig b = false) (q2 : (b == 43) = false) (q3 : (b == 45) = true) :
    Calls Try.prog 7 #[.bool ng, .int .u64 u, .slice a2 n2 c2, .slice a3 n3 c3, .int .u8 sh, .int .u8 b, .bool hb, .slice a7 n7 c7] w fun e w' => e = .returned (.bool true) ∧ w.Since w.heap.size w' := by
  subst hbt
  unfold maxLen at h2 h3 h7
  go_enter Try.func7, Try.ntmps7
  go_wp2_with fail
  refine (zzNumber _ _ _ _ _ _ _ _ _ _ _ _ _ _ _ (by unfold maxLen; omega) (by unfold maxLen; omega) (by unfold maxLen; omega)).mono ?_
  rintro e w1 ⟨⟨r, rfl⟩, s1⟩
  cases r
  · go_wp2
    go_ret
    exact ⟨rfl, s1⟩
  go_wp2_with fail
  refine (jdig_any b _).mono ?_
  rw [q1]
  rintro e w' ⟨rfl, rfl⟩
  go_wp2
  go_ret
  exact ⟨rfl, s1⟩

theorem dang_walk (ng hb : Bool) (u sh b : Int) (a2 a3 a7 : Option Addr) (n2 n3 n7 c2 c3 c7 : Nat) (f2 f3 f7 : Nat → Int) (w : World) (h2 : n2 ≤ maxLen) (h3 : n3 ≤ maxLen) (h7 : n7 ≤ maxLen) (s0 : 0 ≤ sh) (s255 : sh ≤ 255) (u0 : 0 ≤ u) (u1 : u ≤ 18446744073709551615)
    (z7 : a7 = none → n7 = 0 ∧ c7 = 0) (i2 : IsInts w .u8 a2 n2 f2) (i3 : IsInts w .u8 a3 n3 f3) (i7 : IsInts w .u8 a7 n7 f7) (by2 : ∀ i, i < n2 → 0 ≤ f2 i ∧ f2 i ≤ 255) (by3 : ∀ i, i < n3 → 0 ≤ f3 i ∧ f3 i ≤ 255) :
    Calls Try.prog 7 #[.bool ng, .int .u64 u, .slice a2 n2 c2, .slice a3 n3 c3, .int .u8 sh, .int .u8 b, .bool hb, .slice a7 n7 c7] w fun e w' => e = .returned (.bool true) ∧ w.Since w.heap.size w' := by
  by_cases g2 : n2 ≤ 65536
  case neg => exact dangL2 ng hb u sh b a2 a3 a7 n2 n3 n7 c2 c3 c7 w h2 h3 h7 s0 s255 (by omega)
  by_cases g3 : n3 ≤ 65536
  case neg => exact dangL3 ng hb u sh b a2 a3 a7 n2 n3 n7 c2 c3 c7 w h2 h3 h7 s0 s255 g2 (by omega)
  by_cases g7 : n7 ≤ 65536
  case neg => exact dangL7 ng hb u sh b a2 a3 a7 n2 n3 n7 c2 c3 c7 w h2 h3 h7 s0 s255 g2 g3 (by omega)
  have I : DangIn w u a2 a3 a7 n2 n3 n7 c2 c3 c7 f2 f3 f7 := ⟨g2, g3, g7, z7, i2, i3, i7, by2, by3, u0, u1⟩
  rcases (show sh % 4 = 0 ∨ sh % 4 = 1 ∨ sh % 4 = 2 ∨ sh % 4 = 3 by omega) with hk | hk | hk | hk
  · cases e : hb
    · exact dang0 ng false u sh b a2 a3 a7 n2 n3 n7 c2 c3 c7 f2 f3 f7 w I s0 s255 hk (by simp)
    · cases q1 : dig b
      · by_cases q : ng = false ∧ (b == 45) = true
        · exact dangM0 ng true u sh b a2 a3 a7 n2 n3 n7 c2 c3 c7 w h2 h3 h7 s0 s255 g2 g3 g7 rfl hk q1 q.1 q.2
        · refine dang0 ng true u sh b a2 a3 a7 n2 n3 n7 c2 c3 c7 f2 f3 f7 w I s0 s255 hk fun _ => ⟨q1, fun hn => ?_⟩
          cases e2 : (b == 45)
          · rfl
          · exact (q ⟨hn, e2⟩).elim
      · exact dangD0 ng true u sh b a2 a3 a7 n2 n3 n7 c2 c3 c7 w h2 h3 h7 s0 s255 g2 g3 g7 rfl hk q1
  · cases e : hb
    · exact dang1 ng false u sh b a2 a3 a7 n2 n3 n7 c2 c3 c7 f2 f3 f7 w I s0 s255 hk (by simp)
    · cases q1 : dig b
      · exact dang1 ng true u sh b a2 a3 a7 n2 n3 n7 c2 c3 c7 f2 f3 f7 w I s0 s255 hk fun _ => q1
      · exact dangD1 ng true u sh b a2 a3 a7 n2 n3 n7 c2 c3 c7 w h2 h3 h7 s0 s255 g2 g3 g7 rfl hk q1
  · cases e : hb
    · exact dang2 ng false u sh b a2 a3 a7 n2 n3 n7 c2 c3 c7 f2 f3 f7 w I s0 s255 hk (by simp)
    · cases q1 : dig b
      · cases q2 : (b == 43)
        · cases q3 : (b == 45)
          · exact dang2 ng true u sh b a2 a3 a7 n2 n3 n7 c2 c3 c7 f2 f3 f7 w I s0 s255 hk fun _ => ⟨q1, q2, q3⟩
          · exact dangM2 ng true u sh b a2 a3 a7 n2 n3 n7 c2 c3 c7 w h2 h3 h7 s0 s255 g2 g3 g7 rfl hk q1 q2 q3
        · exact dangP2 ng true u sh b a2 a3 a7 n2 n3 n7 c2 c3 c7 w h2 h3 h7 s0 s255 g2 g3 g7 rfl hk q1 q2
      · exact dangD2 ng true u sh b a2 a3 a7 n2 n3 n7 c2 c3 c7 w h2 h3 h7 s0 s255 g2 g3 g7 rfl hk q1
  · cases e : hb
    · exact dang3 ng false u sh b a2 a3 a7 n2 n3 n7 c2 c3 c7 f2 f3 f7 w I s0 s255 hk (by simp)
    · cases q1 : dig b
      · exact dang3 ng true u sh b a2 a3 a7 n2 n3 n7 c2 c3 c7 f2 f3 f7 w I s0 s255 hk fun _ => q1
      · exact dangD3 ng true u sh b a2 a3 a7 n2 n3 n7 c2 c3 c7 w h2 h3 h7 s0 s255 g2 g3 g7 rfl hk q1
end Go.Proofs.Qxb6600039a
