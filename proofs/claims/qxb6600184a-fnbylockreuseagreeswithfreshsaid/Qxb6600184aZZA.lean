/-
  zzBytes of FnByLockReuseAgreesWithFresh: the first three lists.
-/
import Derived.Test.Qxb6600184aZZ0
namespace Go.Proofs.Qxb6600184a
open Go.RowKit
set_option linter.unusedVariables false

set_option maxRecDepth 100000 in
set_option maxHeartbeats 6400000 in
theorem zzA (w : World) (M : Nat) (a1 a2 a3 a4 a5 a6 a7 a8 : Option Addr) (n1 n2 n3 n4 n5 n6 n7 n8 c1 c2 c3 c4 c5 c6 c7 c8 : Nat) (N1 : Nat → ByteArray) (m1 : n1 ≤ maxLen) (m2 : n2 ≤ maxLen) (m3 : n3 ≤ maxLen) (h6 : ∀ i, i < n3 → (N1 i).size ≤ maxLen) (hl : InB w M a3 n3 (fun i => .string (N1 i)))
    (hnext : ∀ T, T ≤ 1048576 → FromZ (zC 12) w T (.slice a1 n1 c1) (.slice a2 n2 c2) (.slice a3 n3 c3) (.slice a4 n4 c4) (.slice a5 n5 c5) (.slice a6 n6 c6) (.slice a7 n7 c7) (.slice a8 n8 c8)) : Calls Try.prog 17 #[.slice a1 n1 c1, .slice a2 n2 c2, .slice a3 n3 c3, .slice a4 n4 c4, .slice a5 n5 c5, .slice a6 n6 c6, .slice a7 n7 c7, .slice a8 n8 c8] w fun e w' => IsBool e ∧ w = w' := by
  unfold maxLen at m1 m2 m3 h6
  have HN := hidd hnext
  have H6 := hidd h6
  have HL := hidd hl
  clear h6 hl hnext
  by_cases cn1a : n1 ≤ 1048576
  case neg =>
    have y0 : (1048576 : Int) < (n1 : Int) := by omega
    go_enter Try.func17, Try.ntmps17
    go_wp2
    first | done | (go_ret; exact ⟨⟨_, rfl⟩, rfl⟩)
  by_cases cn1b : n1 ≤ 1048576
  case neg =>
    have y0 : ¬ (1048576 : Int) < (n1 : Int) := by omega
    have y1 : (1048576 : Int) < (n1 : Int) := by omega
    go_enter Try.func17, Try.ntmps17
    go_wp2
    first | done | (go_ret; exact ⟨⟨_, rfl⟩, rfl⟩)
  by_cases cn2a : n2 ≤ 1048576
  case neg =>
    have y0 : ¬ (1048576 : Int) < (n1 : Int) := by omega
    have y1 : ¬ (1048576 : Int) < (n1 : Int) := by omega
    have y2 : (1048576 : Int) < (n2 : Int) := by omega
    go_enter Try.func17, Try.ntmps17
    go_wp2
    first | done | (go_ret; exact ⟨⟨_, rfl⟩, rfl⟩)
  by_cases cn2b : n1 + n2 ≤ 1048576
  case neg =>
    have y0 : ¬ (1048576 : Int) < (n1 : Int) := by omega
    have y1 : ¬ (1048576 : Int) < (n1 : Int) := by omega
    have y2 : ¬ (1048576 : Int) < (n2 : Int) := by omega
    have y3 : (1048576 : Int) < (n1 : Int) + (n2 : Int) := by omega
    go_enter Try.func17, Try.ntmps17
    go_wp2
    first | done | (go_ret; exact ⟨⟨_, rfl⟩, rfl⟩)
  by_cases cn3a : n3 ≤ 1048576
  case neg =>
    have y0 : ¬ (1048576 : Int) < (n1 : Int) := by omega
    have y1 : ¬ (1048576 : Int) < (n1 : Int) := by omega
    have y2 : ¬ (1048576 : Int) < (n2 : Int) := by omega
    have y3 : ¬ (1048576 : Int) < (n1 : Int) + (n2 : Int) := by omega
    have y4 : (1048576 : Int) < (n3 : Int) := by omega
    go_enter Try.func17, Try.ntmps17
    go_wp2
    first | done | (go_ret; exact ⟨⟨_, rfl⟩, rfl⟩)
  by_cases cn3b : n1 + n2 + n3 ≤ 1048576
  case neg =>
    have y0 : ¬ (1048576 : Int) < (n1 : Int) := by omega
    have y1 : ¬ (1048576 : Int) < (n1 : Int) := by omega
    have y2 : ¬ (1048576 : Int) < (n2 : Int) := by omega
    have y3 : ¬ (1048576 : Int) < (n1 : Int) + (n2 : Int) := by omega
    have y4 : ¬ (1048576 : Int) < (n3 : Int) := by omega
    have y5 : (1048576 : Int) < (n1 : Int) + (n2 : Int) + (n3 : Int) := by omega
    go_enter Try.func17, Try.ntmps17
    go_wp2
    first | done | (go_ret; exact ⟨⟨_, rfl⟩, rfl⟩)
  have y0 : ¬ (1048576 : Int) < (n1 : Int) := by omega
  have y1 : ¬ (1048576 : Int) < (n1 : Int) := by omega
  have y2 : ¬ (1048576 : Int) < (n2 : Int) := by omega
  have y3 : ¬ (1048576 : Int) < (n1 : Int) + (n2 : Int) := by omega
  have y4 : ¬ (1048576 : Int) < (n3 : Int) := by omega
  have y5 : ¬ (1048576 : Int) < (n1 : Int) + (n2 : Int) + (n3 : Int) := by omega
  go_enter Try.func17, Try.ntmps17
  go_upto_block 0 with fail
  clear y0
  clear y1
  clear y2
  clear y3
  clear y4
  clear y5
  go_cut [17] from 18 (fun s17 wx => (∃ T : Nat, s17 = .int .i64 T ∧ T ≤ 1048576) ∧ w = wx)
  case first =>
    go_wp2_with fail
    go_loopg [18, 17] n3 (fun g s s17 wr => ∃ k : Nat, k ≤ n3 ∧ g = n3 - k ∧ s = .int .i64 k ∧ (∃ T : Nat, s17 = .int .i64 T ∧ T ≤ 1048576) ∧ w = wr)
    case atStart => exact ⟨0, Nat.zero_le _, rfl, rfl, ⟨n1 + n2 + n3, by go_num, by omega⟩, rfl⟩
    case round =>
      obtain ⟨k, hk, rfl, rfl, ⟨T, rfl, hT⟩, rfl⟩ := hrel
      by_cases hlt : k < n3
      · obtain ⟨b, off, rfl, hb, hc⟩ := HL.out (by omega)
        have hz : (k : Int) < (n3 : Int) := by omega
        have g0 := hc k hlt
        have hs := H6.out k hlt
        simp only at g0
        generalize N1 k = s at g0 hs
        clear hc
        by_cases c1 : s.size ≤ 1048576
        · by_cases c2 : T + s.size ≤ 1048576
          · have y1 : ¬ (1048576 : Int) < (s.size : Int) := by omega
            have y2 : ¬ (1048576 : Int) < (T : Int) + (s.size : Int) := by omega
            go_wp2
            go_roundg (n3 - (k + 1))
            case measure => go_light; omega
            case rel => go_light; exact ⟨k + 1, by omega, rfl, by go_num, ⟨T + s.size, by go_num, c2⟩, rfl⟩
          · have y1 : ¬ (1048576 : Int) < (s.size : Int) := by omega
            have y2 : (1048576 : Int) < (T : Int) + (s.size : Int) := by omega
            go_wp2
            go_ret
            exact ⟨⟨_, rfl⟩, rfl⟩
        · have y1 : (1048576 : Int) < (s.size : Int) := by omega
          go_wp2
          go_ret
          exact ⟨⟨_, rfl⟩, rfl⟩
      · go_wp2
        go_meet
        exact ⟨⟨T, rfl, hT⟩, rfl⟩
  case rest =>
  obtain ⟨⟨Ta, rfl, hTa⟩, rfl⟩ := hcut
  rename_i hK
  refine hK _ _ ?_
  have hT := HN.out _ hTa undef undef undef undef undef undef undef undef u16 u18 u19 u20 u21 u22 u23 u24 u25 u26 u27 u28 u29 u30 u31 u32 u33 u34 u35 u36 u37 u38 u39 u40 u41 u42 u43 u44 u45 u46 u47 u48 u49 u50 u51 u52 u53 u54 u55 u56 u57 u58 u59 u60 u61 u62 u63 u64 u65 u66 u67 u68 u69 u70 u71 u72 u73 u74 u75 u76 u77 u78 u79 u80 u81 u82 u83 u84 u85 u86 u87 u88 u89 u90 u91 u92 u93 u94 u95 u96 u97 u98 u99 u100 u101 u102 u103 u104 u105 u106 u107 u108 u109 u110 u111 u112 u113 u114 u115 u116 u117 u118 u119 u120 u121 u122 u123 u124 u125 u126 u127 u128 u129 u130 u131 u132 u133 u134 u135 u136 u137 u138 u139 u140 u141 u142 u143 u144 u145 u146 u147 u148 u149 u150 u151 u152 u153 u154 u155 u156 u157 u158 u159 u160 u161 u162 u163 u164 u165 u166 u167 u168 u169 u170 u171 u172 u173 u174 u175 u176 u177 u178 u179 u180 u181 u182 u183 u184 u185 u186 u187 u188 u189 u190 u191 u192 u193 u194 u195 u196 u197 u198 u199 u200 u201 u202 u203 u204 u205 u206 u207 u208 u209 u210 u211 u212 u213 u214 u215 u216 u217 u218 u219 u220 u221 u222 u223 u224 u225 u226 u227 u228 u229 u230 u231 u232 u233 u234 u235 u236 u237 u238 u239
  conv at hT => arg 2; whnf
  exact hT
end Go.Proofs.Qxb6600184a
