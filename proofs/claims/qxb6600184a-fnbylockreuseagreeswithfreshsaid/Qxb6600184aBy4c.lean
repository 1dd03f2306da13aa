/-
  byLock, the active ones put in place.
-/
import Derived.Test.Qxb6600184aBy4
namespace Go.Proofs.Qxb6600184a
open Go.RowKit
set_option linter.unusedSimpArgs false
set_option linter.unusedVariables false

set_option maxRecDepth 100000 in
set_option maxHeartbeats 3200000 in
theorem by4c (R : Ending → World → Prop) (w w2 : World) (L M Bx nm : Nat) (I : Ins) (E : Nat → Ent) (c : Int) (G : ByteArray → Option (Int × Int)) (v3 : Value) (F : I.Fit) (hin : I.In w M) (hst : St w L M nm E c G) (hbx : BoxOk w L M E Bx I) (he3 : E 3 = tqE I I.nt v3) (he : ∀ i, 7 ≤ i → i ≤ 9 → (E i).e = 3 ∧ (E i).sz = 1)
    (hS2' : S4p w L M nm E c G I 0 w2) (hnext : ∀ w', S4p w L M nm E c G I I.nt w' → FromB (byC 16) R L Bx I (I.q : Nat) w') : FromB (byC 14) R L Bx I (I.q : Nat) w2 := by
  have hS3 := hid hS2'
  clear hS2'
  have HN := hid hnext
  have HI := hid hin
  have HF := hid F
  have HS := hid hst
  have HB := hid hbx
  have HE3 := hid he3
  have HE := hid he
  have hnw := F.nw
  have hna := F.na
  have hnt := F.nt
  have hq := I.q_le
  have hown3 := hst.ls.own 3 (by omega) (by omega)
  rw [he3] at hown3
  simp only [tqE] at hown3
  obtain ⟨a3, c3, rfl⟩ := ownsRow_shape2 hown3
  clear hnext hin F hst he hbx he3 hown3
  intro u1 u4 u6 u7 u8 u10 u11 u12 u13 u14 u15 u16 u17 u18 u19 u20 u21 u22 u23 u24 u25 u26 u27 u28 u29 u30 u31 u32 u33 u34 u35 u36 u37 u38 u39 u40 u41 u42 u43 u44 u45 u46 u47 u48 u49 u50 u51 u52 u53 u54 u55 u56 u57 u58 u59 u60 u61 u62 u63 u64 u65 u66 u67 u68 u69 u70 u71 u72 u73 u74 u75 u76 u77 u78 u79 u80 u81 u82 u83 u84 u85 u86 u87 u88 u89 u90 u91 u92 u93 u94 u95 u96 u97 u98 u99 u100 u101 u102 u103 u104 u105 u106 u107 u108 u109 u110 u111 u112 u113 u114 u115 u116 u117 u118 u119 u120 u121 u122 u123 u124 u125 u126 u127 u128 u129 u130 u131 u132 u133 u134 u135 u136 u137 u138 u139 u140 u141 u142 u143 u144 u145 u146 u147 u148 u149 u150 u151 u152 u153 u154 u155 u156 u157 u158 u159 u160 u161 u162 u163 u164 u165 u166 u167 u168 u169 u170 u171 u172 u173 u174 u175 u176 u177 u178 u179 u180 u181 u182 u183 u184 u185 u186 u187 u188 u189 u190 u191 u192 u193 u194 u195 u196 u197 u198 u199 u200 u201 u202 u203 u204 u205 u206 u207 u208 u209 u210 u211 u212 u213 u214 u215 u216 u217 u218 u219 u220 u221 u222 u223 u224 u225 u226 u227 u228 u229 u230 u231 u232 u233 u234 u235 u236 u237 u238 u239 u240 u241 u242 u243 u244 u245 u246 u247 u248 u249 u250 u251 u252 u253 u254 u255 u256 u257 u258 u259 u260 u261 u262 u263 u264 u265 u266 u267 u268 u269 u270 u271 u272 u273 u274 u275 u276 u277 u278 u279 u280 u281 u282 u283 u284 u285 u286 u287 u288 u289 u290 u291 u292 u293 u294 u295 u296 u297
  conv => arg 2; whnf
  obtain ⟨E1, hSt1, hK1, _, _⟩ := hS3.out
  have p5 := (HB.out.keep hK1).ca
  clear hSt1 hK1
  go_upto_block 12 with fail
  clear p5
  go_cut [] from 10 (fun wx => Hid (S4p w L M nm E c G I I.nt wx))
  case first =>
    go_wp2_with fail
    go_loopg [226, 27] I.na (fun g s226 s27 wr => ∃ i : Nat, i ≤ I.na ∧ g = I.na - i ∧ s226 = .int .i64 i ∧ s27 = .int .i64 (pos I.xl i : Nat) ∧ Hid (S4p w L M nm E c G I (pos I.xl i) wr))
    case atStart => exact ⟨0, Nat.zero_le _, rfl, rfl, rfl, hS3⟩
    case round =>
      obtain ⟨i, hi, rfl, rfl, rfl, hS⟩ := hrel
      clear hS3
      by_cases hlt : i < I.na
      · obtain ⟨bx, ox, ex, hbx, hcx⟩ := HI.out.hx (by omega)
        obtain ⟨ai, ci, hc1, hc2⟩ := hcx i hlt
        obtain ⟨ba, oa, ea, hba, hca⟩ := HI.out.ha (by omega)
        obtain ⟨E', hSt, hK, hz, hEo⟩ := hS.out
        have hM := hK.below HS.out
        have g0 : wr.cell? ⟨bx, ox + i, none⟩ = some (.slice ai (I.xl i) ci) := (hM.cell (a := ⟨bx, ox + i, none⟩) hbx).trans hc1
        have g1 : wr.cell? ⟨ba, oa + i, none⟩ = some (.int .i64 (I.fa i)) := (hM.cell (a := ⟨ba, oa + i, none⟩) hba).trans (hca i hlt)
        rw [ex, ea]
        have HAX := hid (And.intro ex ea)
        have hzi : (i : Int) < (I.na : Int) := by omega
        have hpn : pos I.xl i + I.xl i ≤ 4096 := by have h1 := pos_mono I.xl (show i + 1 ≤ I.na by omega); have h2 : pos I.xl (i + 1) = pos I.xl i + I.xl i := rfl; have h3 : I.nt = pos I.xl I.na := rfl; omega
        clear hcx hca hc1 hc2 ex ea hSt hK hz hEo hM E'
        go_wp2_with fail
        clear g0 g1
        go_loopg [236, 27] (I.xl i) (fun g s236 s27 wr => ∃ r : Nat, r ≤ I.xl i ∧ g = I.xl i - r ∧ s236 = .int .i64 r ∧ s27 = .int .i64 ((pos I.xl i + r : Nat) : Int) ∧ Hid (S4p w L M nm E c G I (pos I.xl i + r) wr))
        case atStart => exact ⟨0, Nat.zero_le _, rfl, rfl, rfl, hS⟩
        case round =>
          obtain ⟨r, hr, rfl, rfl, rfl, hSr⟩ := hrel
          clear hS
          by_cases hrl : r < I.xl i
          · obtain ⟨E', hSt, hK, hz, hEo⟩ := hSr.out
            have htl : pos I.xl i + r < I.nt := pos_lt I.xl hlt hrl
            obtain ⟨p3, p3'⟩ := tq_read hSt ((hEo 3 (by omega) (by omega) (by omega)).trans HE3.out)
            obtain ⟨g3, rfl, r3⟩ := p3' _ htl
            have hva := hid (I.va_at hlt hrl)
            have HST := hid hSt
            have HKK := hid hK
            have HZ := hid (And.intro hz hEo)
            have hzr : (r : Int) < (I.xl i : Int) := by omega
            generalize hT : pos I.xl i + r = T at htl r3 hva hSr HZ ⊢
            have hzT : (T : Int) < (I.nt : Int) := by omega
            have HTT := hid hT
            clear hSt hK hz hEo hSr p3' hT
            by_cases hk : 0 ≤ I.κa T
            · obtain ⟨k, hkk⟩ := Int.eq_ofNat_of_zero_le hk
              have hkl := I.κa_lt T
              rw [hkk] at hkl r3
              have HKX := hid hkk
              clear hk hkk
              go_wp2_with fail
              have hput := put_step wr L 7 I.q I.nt k T I.κa I.va E' _ _ HST.out.ls (by omega) (by omega) HZ.out.1 HKX.out (by omega) (by omega) htl (by omega)
              rw [hva.out] at hput
              refine Calls.mono hput ?_
              rintro e w' ⟨⟨rr, rfl⟩, E2, hL2, hs2, hz2, ho2⟩
              have hSn : Hid (S4p w L M nm E c G I (T + 1) w') := ⟨E2, HST.out.step hL2 hs2, HKK.out.trans (hs2.keep M), hz2, fun j j7 j8 j9 => (ho2 j j7 j8 j9).trans (HZ.out.2 j j7 j8 j9)⟩
              clear hput hL2 hs2 hz2 ho2 HST HKK HZ p3 r3
              go_wp2
              go_roundg (I.xl i - (r + 1))
              case measure => go_light; omega
              case rel => go_light; exact ⟨r + 1, by omega, rfl, by go_num, by rw [← HTT.out]; go_num, by rw [← Nat.add_assoc, HTT.out]; exact hSn⟩
            · have hSn : Hid (S4p w L M nm E c G I (T + 1) wr) := ⟨E', HST.out, HKK.out, HZ.out.1.skip (I.κa_skip hk), HZ.out.2⟩
              clear HST HKK HZ
              go_wp2
              go_roundg (I.xl i - (r + 1))
              case measure => go_light; omega
              case rel => go_light; exact ⟨r + 1, by omega, rfl, by go_num, by rw [← HTT.out]; go_num, by rw [← Nat.add_assoc, HTT.out]; exact hSn⟩
          · obtain rfl : r = I.xl i := by omega
            go_wp2
            rw [← HAX.out.1, ← HAX.out.2]
            go_roundg (I.na - (i + 1))
            case measure => go_light; omega
            case rel => go_light; exact ⟨i + 1, by omega, rfl, by go_num, rfl, hSr⟩
      · obtain rfl : i = I.na := by omega
        go_wp2
        go_meet
        exact hS
  case rest =>
  rename_i hK
  refine hK _ _ ?_
  have hT := HN.out _ hcut.out u1 u4 u6 u7 u8 u10 u11 u12 u13 u14 u15 u16 u17 u18 u19 u20 u21 u22 u23 u24 u25 u26 u27 u28 u29 u30 u31 u32 u33 u34 u35 u36 u37 u38 u39 u40 u41 u42 u43 u44 u45 u46 u47 u48 u49 u50 u51 u52 u53 u54 u55 u56 u57 u58 u59 u60 u61 u62 u63 u64 u65 u66 u67 u68 u69 u70 u71 u72 u73 u74 u75 u76 u77 u78 u79 u80 u81 u82 u83 u84 u85 u86 u87 u88 u89 u90 u91 u92 u93 u94 u95 u96 u97 u98 u99 u100 u101 u102 u103 u104 u105 u106 u107 u108 u109 u110 u111 u112 u113 u114 u115 u116 u117 u118 u119 u120 u121 u122 u123 u124 u125 u126 u127 u128 u129 u130 u131 u132 u133 u134 u135 u136 u137 u138 u139 u140 u141 u142 u143 u144 u145 u146 u147 u148 u149 u150 u151 u152 u153 u154 u155 u156 u157 u158 u159 u160 u161 u162 u163 u164 u165 u166 u167 u168 u169 u170 u171 u172 u173 u174 u175 u176 u177 u178 u179 u180 u181 u182 u183 u184 u185 u186 u187 u188 u189 u190 u191 u192 u193 u194 u195 u196 u197 u198 u199 u200 u201 u202 u203 u204 u205 u206 u207 u208 u209 u210 u211 u212 u213 u214 u215 u216 u217 u218 u219 u220 u221 u222 u223 u224 u225 u226 u227 u228 u229 u230 u231 u232 u233 u234 u235 u236 u237 u238 u239 u240 u241 u242 u243 u244 u245 u246 u247 u248 u249 u250 u251 u252 u253 u254 u255 u256 u257 u258 u259 u260 u261 u262 u263 u264 u265 u266 u267 u268 u269 u270 u271 u272 u273 u274 u275 u276 u277 u278 u279 u280 u281 u282 u283 u284 u285 u286 u287 u288 u289 u290 u291 u292 u293 u294 u295 u296 u297
  conv at hT => arg 2; whnf
  exact hT
end Go.Proofs.Qxb6600184a
