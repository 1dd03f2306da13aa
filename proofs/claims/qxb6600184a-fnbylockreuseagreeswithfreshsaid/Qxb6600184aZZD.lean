/-
  zzBytes of FnByLockReuseAgreesWithFresh: the second lists of names.
-/
import Derived.Test.Qxb6600184aZZ0
namespace Go.Proofs.Qxb6600184a
open Go.RowKit
set_option linter.unusedVariables false

set_option maxRecDepth 100000 in
set_option maxHeartbeats 6400000 in
theorem zzD (w : World) (M T0 : Nat) (a1 a2 a3 a4 a5 a6 a7 a8 : Option Addr) (n1 n2 n3 n4 n5 n6 n7 n8 c1 c2 c3 c4 c5 c6 c7 c8 : Nat) (xl2 : Nat → Nat) (X2 : Nat → Nat → ByteArray) (hT0 : T0 ≤ 1048576) (m : n8 ≤ maxLen) (h5 : ∀ i, i < n8 → xl2 i ≤ maxLen) (h7 : ∀ i, i < n8 → ∀ r, r < xl2 i → (X2 i r).size ≤ maxLen) (hx : XIn w M a8 n8 xl2 X2) : FromZ (zC 26) w T0 (.slice a1 n1 c1) (.slice a2 n2 c2) (.slice a3 n3 c3) (.slice a4 n4 c4) (.slice a5 n5 c5) (.slice a6 n6 c6) (.slice a7 n7 c7) (.slice a8 n8 c8) := by
  unfold maxLen at m h5 h7
  have H5 := hidd h5
  have H7 := hidd h7
  have HX := hidd hx
  clear h5 h7 hx
  intro u8 u9 u10 u11 u12 u13 u14 u15 u16 u18 u19 u20 u21 u22 u23 u24 u25 u26 u27 u28 u29 u30 u31 u32 u33 u34 u35 u36 u37 u38 u39 u40 u41 u42 u43 u44 u45 u46 u47 u48 u49 u50 u51 u52 u53 u54 u55 u56 u57 u58 u59 u60 u61 u62 u63 u64 u65 u66 u67 u68 u69 u70 u71 u72 u73 u74 u75 u76 u77 u78 u79 u80 u81 u82 u83 u84 u85 u86 u87 u88 u89 u90 u91 u92 u93 u94 u95 u96 u97 u98 u99 u100 u101 u102 u103 u104 u105 u106 u107 u108 u109 u110 u111 u112 u113 u114 u115 u116 u117 u118 u119 u120 u121 u122 u123 u124 u125 u126 u127 u128 u129 u130 u131 u132 u133 u134 u135 u136 u137 u138 u139 u140 u141 u142 u143 u144 u145 u146 u147 u148 u149 u150 u151 u152 u153 u154 u155 u156 u157 u158 u159 u160 u161 u162 u163 u164 u165 u166 u167 u168 u169 u170 u171 u172 u173 u174 u175 u176 u177 u178 u179 u180 u181 u182 u183 u184 u185 u186 u187 u188 u189 u190 u191 u192 u193 u194 u195 u196 u197 u198 u199 u200 u201 u202 u203 u204 u205 u206 u207 u208 u209 u210 u211 u212 u213 u214 u215 u216 u217 u218 u219 u220 u221 u222 u223 u224 u225 u226 u227 u228 u229 u230 u231 u232 u233 u234 u235 u236 u237 u238 u239
  conv => arg 2; whnf
  by_cases cn8a : n8 ≤ 1048576
  case neg =>
    have y0 : (1048576 : Int) < (n8 : Int) := by omega
    go_wp2
    first | done | (go_ret; exact ⟨⟨_, rfl⟩, rfl⟩)
  by_cases cn8b : T0 + n8 ≤ 1048576
  case neg =>
    have y0 : ¬ (1048576 : Int) < (n8 : Int) := by omega
    have y1 : (1048576 : Int) < ((T0 : Nat) : Int) + (n8 : Int) := by omega
    go_wp2
    first | done | (go_ret; exact ⟨⟨_, rfl⟩, rfl⟩)
  have y0 : ¬ (1048576 : Int) < (n8 : Int) := by omega
  have y1 : ¬ (1048576 : Int) < ((T0 : Nat) : Int) + (n8 : Int) := by omega
  go_upto_block 8 with fail
  clear y0
  clear y1
  go_cut [17] from 18 (fun s17 wx => (∃ T : Nat, s17 = .int .i64 T ∧ T ≤ 1048576) ∧ w = wx)
  case first =>
    go_wp2_with fail
    go_loopg [22, 17] n8 (fun g s s17 wr => ∃ i : Nat, i ≤ n8 ∧ g = n8 - i ∧ s = .int .i64 i ∧ (∃ T : Nat, s17 = .int .i64 T ∧ T ≤ 1048576) ∧ w = wr)
    case atStart => exact ⟨0, Nat.zero_le _, rfl, rfl, ⟨T0 + n8, by go_num, by omega⟩, rfl⟩
    case round =>
      obtain ⟨i, hi, rfl, rfl, ⟨T2, rfl, hT2⟩, rfl⟩ := hrel
      by_cases hli : i < n8
      · obtain ⟨b, off, rfl, hb, hc⟩ := HX.out (by omega)
        obtain ⟨ai, ci, g0, hin⟩ := hc i hli
        have hz : (i : Int) < (n8 : Int) := by omega
        have hxl := H5.out i hli
        have HIN := hidd hin
        have HS := hidd (H7.out i hli)
        clear hc hin
        generalize xl2 i = n at g0 hxl HIN HS
        by_cases c1 : n ≤ 1048576
        case neg =>
          have y1 : (1048576 : Int) < (n : Int) := by omega
          go_wp2
          go_ret
          exact ⟨⟨_, rfl⟩, rfl⟩
        by_cases c2 : T2 + n ≤ 1048576
        case neg =>
          have y1 : ¬ (1048576 : Int) < (n : Int) := by omega
          have y2 : (1048576 : Int) < (T2 : Int) + (n : Int) := by omega
          go_wp2
          go_ret
          exact ⟨⟨_, rfl⟩, rfl⟩
        have y1 : ¬ (1048576 : Int) < (n : Int) := by omega
        have y2 : ¬ (1048576 : Int) < (T2 : Int) + (n : Int) := by omega
        go_wp2
        clear y1 y2
        go_loopg [23, 17] n (fun g s s17 wr => ∃ r : Nat, r ≤ n ∧ g = n - r ∧ s = .int .i64 r ∧ (∃ T : Nat, s17 = .int .i64 T ∧ T ≤ 1048576) ∧ w = wr)
        case atStart => exact ⟨0, Nat.zero_le _, rfl, rfl, ⟨T2 + n, by go_num, c2⟩, rfl⟩
        case round =>
          obtain ⟨r, hr, rfl, rfl, ⟨T3, rfl, hT3⟩, rfl⟩ := hrel
          by_cases hlr : r < n
          · obtain ⟨b2, off2, rfl, hb2, hc2⟩ := HIN.out (by omega)
            have hzr : (r : Int) < (n : Int) := by omega
            have g1 := hc2 r hlr
            have hs := HS.out r hlr
            simp only at g1
            generalize X2 i r = s at g1 hs
            clear hc2
            by_cases d1 : s.size ≤ 1048576
            · by_cases d2 : T3 + s.size ≤ 1048576
              · have y1 : ¬ (1048576 : Int) < (s.size : Int) := by omega
                have y2 : ¬ (1048576 : Int) < (T3 : Int) + (s.size : Int) := by omega
                go_wp2
                go_roundg (n - (r + 1))
                case measure => go_light; omega
                case rel => go_light; exact ⟨r + 1, by omega, rfl, by go_num, ⟨T3 + s.size, by go_num, d2⟩, rfl⟩
              · have y1 : ¬ (1048576 : Int) < (s.size : Int) := by omega
                have y2 : (1048576 : Int) < (T3 : Int) + (s.size : Int) := by omega
                go_wp2
                go_ret
                exact ⟨⟨_, rfl⟩, rfl⟩
            · have y1 : (1048576 : Int) < (s.size : Int) := by omega
              go_wp2
              go_ret
              exact ⟨⟨_, rfl⟩, rfl⟩
          · go_wp2
            go_roundg (n8 - (i + 1))
            case measure => go_light; omega
            case rel => go_light; exact ⟨i + 1, by omega, rfl, by go_num, ⟨T3, rfl, hT3⟩, rfl⟩
      · go_wp2
        go_meet
        exact ⟨⟨T2, rfl, hT2⟩, rfl⟩
  case rest =>
  obtain ⟨⟨Tb, rfl, hTb⟩, rfl⟩ := hcut
  go_wp2
  go_ret
  exact ⟨⟨_, rfl⟩, rfl⟩
end Go.Proofs.Qxb6600184a
