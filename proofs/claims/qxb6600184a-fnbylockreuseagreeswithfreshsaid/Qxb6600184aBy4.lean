/-
  byLock, the active ones by queue.
-/
import Derived.Test.Qxb6600184aBy3
namespace Go.Proofs.Qxb6600184a
open Go.RowKit
set_option linter.unusedSimpArgs false
set_option linter.unusedVariables false

/-- The row of the taken locks' keys, read. -/
theorem tq_read {w : World} {L M nm : Nat} {E : Nat → Ent} {c : Int} {G : ByteArray → Option (Int × Int)} {I : Ins} {a3 : Option Addr} {c3 : Nat} (h : St w L M nm E c G) (he : E 3 = tqE I I.nt (.slice a3 I.nt c3)) :
    w.cell? ⟨L, 3, none⟩ = some (.slice a3 I.nt c3) ∧ ∀ t, t < I.nt → ∃ g, a3 = some ⟨g, 0, none⟩ ∧ w.cell? ⟨g, t, none⟩ = some (.int .i64 (I.κa t)) := by
  have p := h.ls.cellE (i := 3) (by omega) (by omega)
  have o := h.ls.own 3 (by omega) (by omega)
  rw [he] at p o
  refine ⟨p, fun t ht => ?_⟩
  simp only [tqE] at o
  obtain ⟨g, rfl⟩ := own_some o (by omega)
  exact ⟨g, rfl, (ownsRow_read o (rowL_get _ _ ht)).1⟩

theorem Ins.κa_lt (I : Ins) (t : Nat) : I.κa t < (I.q : Int) := keyIn_lt _ _
theorem Ins.κa_skip (I : Ins) {t : Nat} (h : ¬ 0 ≤ I.κa t) : ∀ k, k < I.q → I.κa t ≠ (k : Int) := fun k _ e => by omega

def S4c (w : World) (L M nm : Nat) (E : Nat → Ent) (c : Int) (G : ByteArray → Option (Int × Int)) (I : Ins) (t : Nat) (wr : World) : Prop :=
  ∃ E' g cc, St wr L M nm E' c G ∧ Keep w wr L M E E' ∧ E' 7 = CntE I.q g cc I.κa t ∧ ∀ i, i ≠ 7 → E' i = E i
def S4p (w : World) (L M nm : Nat) (E : Nat → Ent) (c : Int) (G : ByteArray → Option (Int × Int)) (I : Ins) (t : Nat) (wr : World) : Prop :=
  ∃ E', St wr L M nm E' c G ∧ Keep w wr L M E E' ∧ SzSt E' 7 I.q I.nt I.κa I.va t ∧ ∀ i, i ≠ 7 → i ≠ 8 → i ≠ 9 → E' i = E i

set_option maxRecDepth 100000 in
set_option maxHeartbeats 3200000 in
theorem by4a (R : Ending → World → Prop) (w : World) (L M Bx nm : Nat) (I : Ins) (E : Nat → Ent) (c : Int) (G : ByteArray → Option (Int × Int)) (v3 : Value) (F : I.Fit) (hin : I.In w M) (hst : St w L M nm E c G) (hbx : BoxOk w L M E Bx I) (he3 : E 3 = tqE I I.nt v3) (he : ∀ i, 7 ≤ i → i ≤ 9 → (E i).e = 3 ∧ (E i).sz = 1)
    (hnext : ∀ w', S4c w L M nm E c G I I.nt w' → FromB (byC 13) R L Bx I (I.q : Nat) w') : FromB (byC 11) R L Bx I (I.q : Nat) w := by
  have HN := hid hnext
  have HI := hid hin
  have HF := hid F
  have HS := hid hst
  have HB := hid hbx
  have HE3 := hid he3
  have HE := hid he
  have hnw := F.nw
  have hna := F.na
  have hnt := F.nt
  have hq := I.q_le
  have hown3 := hst.ls.own 3 (by omega) (by omega)
  rw [he3] at hown3
  simp only [tqE] at hown3
  obtain ⟨a3, c3, rfl⟩ := ownsRow_shape2 hown3
  clear hnext hin F hst he hbx he3 hown3
  intro u1 u4 u6 u7 u8 u10 u11 u12 u13 u14 u15 u16 u17 u18 u19 u20 u21 u22 u23 u24 u25 u26 u27 u28 u29 u30 u31 u32 u33 u34 u35 u36 u37 u38 u39 u40 u41 u42 u43 u44 u45 u46 u47 u48 u49 u50 u51 u52 u53 u54 u55 u56 u57 u58 u59 u60 u61 u62 u63 u64 u65 u66 u67 u68 u69 u70 u71 u72 u73 u74 u75 u76 u77 u78 u79 u80 u81 u82 u83 u84 u85 u86 u87 u88 u89 u90 u91 u92 u93 u94 u95 u96 u97 u98 u99 u100 u101 u102 u103 u104 u105 u106 u107 u108 u109 u110 u111 u112 u113 u114 u115 u116 u117 u118 u119 u120 u121 u122 u123 u124 u125 u126 u127 u128 u129 u130 u131 u132 u133 u134 u135 u136 u137 u138 u139 u140 u141 u142 u143 u144 u145 u146 u147 u148 u149 u150 u151 u152 u153 u154 u155 u156 u157 u158 u159 u160 u161 u162 u163 u164 u165 u166 u167 u168 u169 u170 u171 u172 u173 u174 u175 u176 u177 u178 u179 u180 u181 u182 u183 u184 u185 u186 u187 u188 u189 u190 u191 u192 u193 u194 u195 u196 u197 u198 u199 u200 u201 u202 u203 u204 u205 u206 u207 u208 u209 u210 u211 u212 u213 u214 u215 u216 u217 u218 u219 u220 u221 u222 u223 u224 u225 u226 u227 u228 u229 u230 u231 u232 u233 u234 u235 u236 u237 u238 u239 u240 u241 u242 u243 u244 u245 u246 u247 u248 u249 u250 u251 u252 u253 u254 u255 u256 u257 u258 u259 u260 u261 u262 u263 u264 u265 u266 u267 u268 u269 u270 u271 u272 u273 u274 u275 u276 u277 u278 u279 u280 u281 u282 u283 u284 u285 u286 u287 u288 u289 u290 u291 u292 u293 u294 u295 u296 u297
  conv => arg 2; whnf
  go_upto_region 40 with fail
  go_cut [] from 10 (fun wx => Hid (S4c w L M nm E c G I 0 wx))
  case first =>
    go_wp2_with fail
    refine (reset_any w L 7 I.q E _ _ HS.out.ls (by omega) (by omega) (HE.out 7 (by omega) (by omega)).1 (HE.out 7 (by omega) (by omega)).2 (by omega)).mono ?_
    rintro e w1 ⟨rfl, g, cc, hL1, hs1⟩
    have hS1 : Hid (S4c w L M nm E c G I 0 w1) := ⟨_, g, cc, HS.out.step hL1 hs1, hs1.keep M, by rw [upd_same, CntE.zero _ _ _ I.κa], fun i hi => upd_other _ _ hi⟩
    clear hL1 hs1
    go_wp2
    go_meet
    exact hS1
  case rest =>
  rename World => w1
  have hS1 := hcut
  clear hcut
  obtain ⟨E1, g1, cc1, hSt1, hK1, hE4, hEo⟩ := hS1.out
  have p3 := (tq_read hSt1 ((hEo 3 (by omega)).trans HE3.out)).1
  clear hSt1 hK1 hE4 hEo E1 g1 cc1
  go_upto_block 10 with fail
  clear p3
  go_cut [] from 10 (fun wx => Hid (S4c w L M nm E c G I I.nt wx))
  case first =>
    go_wp2_with fail
    go_loopg [207] I.nt (fun g s207 wr => ∃ t : Nat, t ≤ I.nt ∧ g = I.nt - t ∧ s207 = .int .i64 t ∧ Hid (S4c w L M nm E c G I t wr))
    case atStart => exact ⟨0, Nat.zero_le _, rfl, rfl, hS1⟩
    case round =>
      obtain ⟨t, ht, rfl, rfl, hS⟩ := hrel
      clear hS1
      by_cases hlt : t < I.nt
      · obtain ⟨E', g, cc, hSt, hK, hE4, hEo⟩ := hS.out
        obtain ⟨g3, rfl, r3⟩ := (tq_read hSt ((hEo 3 (by omega)).trans HE3.out)).2 t hlt
        have hzt : (t : Int) < (I.nt : Int) := by omega
        have HST := hid hSt
        have HKK := hid hK
        have HE4 := hid (And.intro hE4 hEo)
        clear hSt hK hE4 hEo hS
        by_cases hk : 0 ≤ I.κa t
        · obtain ⟨k, hkk⟩ := Int.eq_ofNat_of_zero_le hk
          have hkl := I.κa_lt t
          rw [hkk] at hkl r3
          have HKX := hid hkk
          clear hk hkk
          go_wp2_with fail
          refine (count_step wr L 7 I.q g cc k t I.κa E' _ _ HST.out.ls (by omega) (by omega) HE4.out.1 HKX.out (by omega) (by omega) (by omega)).mono ?_
          rintro e w' ⟨rfl, hL', hs'⟩
          have hSn : Hid (S4c w L M nm E c G I (t + 1) w') := ⟨_, g, cc, HST.out.step hL' hs', HKK.out.trans (hs'.keep M), upd_same _ _ _, fun i hi => by rw [upd_other _ _ hi]; exact HE4.out.2 i hi⟩
          clear hL' hs' HST HKK HE4 r3
          go_wp2
          go_roundg (I.nt - (t + 1))
          case measure => go_light; omega
          case rel => go_light; exact ⟨t + 1, by omega, rfl, by go_num, hSn⟩
        · have hSn : Hid (S4c w L M nm E c G I (t + 1) wr) := ⟨E', g, cc, HST.out, HKK.out, by rw [CntE.skip (I.κa_skip hk)]; exact HE4.out.1, HE4.out.2⟩
          clear HST HKK HE4
          go_wp2
          go_roundg (I.nt - (t + 1))
          case measure => go_light; omega
          case rel => go_light; exact ⟨t + 1, by omega, rfl, by go_num, hSn⟩
      · obtain rfl : t = I.nt := by omega
        go_wp2
        go_meet
        exact hS
  case rest =>
  rename_i hK
  refine hK _ _ ?_
  have hT := HN.out _ hcut.out u1 u4 u6 u7 u8 u10 u11 u12 u13 u14 u15 u16 u17 u18 u19 u20 u21 u22 u23 u24 u25 u26 u27 u28 u29 u30 u31 u32 u33 u34 u35 u36 u37 u38 u39 u40 u41 u42 u43 u44 u45 u46 u47 u48 u49 u50 u51 u52 u53 u54 u55 u56 u57 u58 u59 u60 u61 u62 u63 u64 u65 u66 u67 u68 u69 u70 u71 u72 u73 u74 u75 u76 u77 u78 u79 u80 u81 u82 u83 u84 u85 u86 u87 u88 u89 u90 u91 u92 u93 u94 u95 u96 u97 u98 u99 u100 u101 u102 u103 u104 u105 u106 u107 u108 u109 u110 u111 u112 u113 u114 u115 u116 u117 u118 u119 u120 u121 u122 u123 u124 u125 u126 u127 u128 u129 u130 u131 u132 u133 u134 u135 u136 u137 u138 u139 u140 u141 u142 u143 u144 u145 u146 u147 u148 u149 u150 u151 u152 u153 u154 u155 u156 u157 u158 u159 u160 u161 u162 u163 u164 u165 u166 u167 u168 u169 u170 u171 u172 u173 u174 u175 u176 u177 u178 u179 u180 u181 u182 u183 u184 u185 u186 u187 u188 u189 u190 u191 u192 u193 u194 u195 u196 u197 u198 u199 u200 u201 u202 u203 u204 u205 u206 u207 u208 u209 u210 u211 u212 u213 u214 u215 u216 u217 u218 u219 u220 u221 u222 u223 u224 u225 u226 u227 u228 u229 u230 u231 u232 u233 u234 u235 u236 u237 u238 u239 u240 u241 u242 u243 u244 u245 u246 u247 u248 u249 u250 u251 u252 u253 u254 u255 u256 u257 u258 u259 u260 u261 u262 u263 u264 u265 u266 u267 u268 u269 u270 u271 u272 u273 u274 u275 u276 u277 u278 u279 u280 u281 u282 u283 u284 u285 u286 u287 u288 u289 u290 u291 u292 u293 u294 u295 u296 u297
  conv at hT => arg 2; whnf
  exact hT

set_option maxRecDepth 100000 in
set_option maxHeartbeats 3200000 in
theorem by4b (R : Ending → World → Prop) (w w2 : World) (L M Bx nm : Nat) (I : Ins) (E : Nat → Ent) (c : Int) (G : ByteArray → Option (Int × Int)) (v3 : Value) (F : I.Fit) (hin : I.In w M) (hst : St w L M nm E c G) (hbx : BoxOk w L M E Bx I) (he3 : E 3 = tqE I I.nt v3) (he : ∀ i, 7 ≤ i → i ≤ 9 → (E i).e = 3 ∧ (E i).sz = 1)
    (hS2' : S4c w L M nm E c G I I.nt w2) (hnext : ∀ w', S4p w L M nm E c G I 0 w' → FromB (byC 14) R L Bx I (I.q : Nat) w') : FromB (byC 13) R L Bx I (I.q : Nat) w2 := by
  have hS2 := hid hS2'
  clear hS2'
  have HN := hid hnext
  have HI := hid hin
  have HF := hid F
  have HS := hid hst
  have HB := hid hbx
  have HE3 := hid he3
  have HE := hid he
  have hnw := F.nw
  have hna := F.na
  have hnt := F.nt
  have hq := I.q_le
  have hown3 := hst.ls.own 3 (by omega) (by omega)
  rw [he3] at hown3
  simp only [tqE] at hown3
  obtain ⟨a3, c3, rfl⟩ := ownsRow_shape2 hown3
  clear hnext hin F hst he hbx he3 hown3
  intro u1 u4 u6 u7 u8 u10 u11 u12 u13 u14 u15 u16 u17 u18 u19 u20 u21 u22 u23 u24 u25 u26 u27 u28 u29 u30 u31 u32 u33 u34 u35 u36 u37 u38 u39 u40 u41 u42 u43 u44 u45 u46 u47 u48 u49 u50 u51 u52 u53 u54 u55 u56 u57 u58 u59 u60 u61 u62 u63 u64 u65 u66 u67 u68 u69 u70 u71 u72 u73 u74 u75 u76 u77 u78 u79 u80 u81 u82 u83 u84 u85 u86 u87 u88 u89 u90 u91 u92 u93 u94 u95 u96 u97 u98 u99 u100 u101 u102 u103 u104 u105 u106 u107 u108 u109 u110 u111 u112 u113 u114 u115 u116 u117 u118 u119 u120 u121 u122 u123 u124 u125 u126 u127 u128 u129 u130 u131 u132 u133 u134 u135 u136 u137 u138 u139 u140 u141 u142 u143 u144 u145 u146 u147 u148 u149 u150 u151 u152 u153 u154 u155 u156 u157 u158 u159 u160 u161 u162 u163 u164 u165 u166 u167 u168 u169 u170 u171 u172 u173 u174 u175 u176 u177 u178 u179 u180 u181 u182 u183 u184 u185 u186 u187 u188 u189 u190 u191 u192 u193 u194 u195 u196 u197 u198 u199 u200 u201 u202 u203 u204 u205 u206 u207 u208 u209 u210 u211 u212 u213 u214 u215 u216 u217 u218 u219 u220 u221 u222 u223 u224 u225 u226 u227 u228 u229 u230 u231 u232 u233 u234 u235 u236 u237 u238 u239 u240 u241 u242 u243 u244 u245 u246 u247 u248 u249 u250 u251 u252 u253 u254 u255 u256 u257 u258 u259 u260 u261 u262 u263 u264 u265 u266 u267 u268 u269 u270 u271 u272 u273 u274 u275 u276 u277 u278 u279 u280 u281 u282 u283 u284 u285 u286 u287 u288 u289 u290 u291 u292 u293 u294 u295 u296 u297
  conv => arg 2; whnf
  go_upto_region 47 with fail
  go_cut [] from 10 (fun wx => Hid (S4p w L M nm E c G I 0 wx))
  case first =>
    obtain ⟨E', g, cc, hSt, hK, hE4, hEo⟩ := hS2.out
    have HST := hid hSt
    have HKK := hid hK
    have HE4 := hid (And.intro hE4 hEo)
    have hsum := sum_cfT I.κa I.q I.nt
    have t5 := HE.out 8 (by omega) (by omega)
    have t6 := HE.out 9 (by omega) (by omega)
    rw [← hEo 8 (by omega)] at t5
    rw [← hEo 9 (by omega)] at t6
    clear hSt hK hE4 hEo hS2
    go_wp2_with fail
    refine (layOut_any w2 L 7 I.q g cc (cfT I.κa I.nt) E' _ _ HST.out.ls (by omega) (by omega) HE4.out.1 t5 t6 (by omega) (by omega)).mono ?_
    rintro e w' ⟨rfl, hLd⟩
    obtain ⟨E3, hl3, hs3, hz3, ho3⟩ := hLd.sz I.va (by omega) (by omega)
    have hSn : Hid (S4p w L M nm E c G I 0 w') := ⟨E3, HST.out.step hl3 hs3, HKK.out.trans (hs3.keep M), hz3, fun i i4 i5 i6 => (ho3 i i4 i5 i6).trans (HE4.out.2 i i4)⟩
    clear hLd hl3 hs3 hz3 ho3 HST HKK HE4 t5 t6 hsum
    go_wp2
    go_meet
    exact hSn
  case rest =>
  rename_i hK
  refine hK _ _ ?_
  have hT := HN.out _ hcut.out u1 u4 u6 u7 u8 u10 u11 u12 u13 u14 u15 u16 u17 u18 u19 u20 u21 u22 u23 u24 u25 u26 u27 u28 u29 u30 u31 u32 u33 u34 u35 u36 u37 u38 u39 u40 u41 u42 u43 u44 u45 u46 u47 u48 u49 u50 u51 u52 u53 u54 u55 u56 u57 u58 u59 u60 u61 u62 u63 u64 u65 u66 u67 u68 u69 u70 u71 u72 u73 u74 u75 u76 u77 u78 u79 u80 u81 u82 u83 u84 u85 u86 u87 u88 u89 u90 u91 u92 u93 u94 u95 u96 u97 u98 u99 u100 u101 u102 u103 u104 u105 u106 u107 u108 u109 u110 u111 u112 u113 u114 u115 u116 u117 u118 u119 u120 u121 u122 u123 u124 u125 u126 u127 u128 u129 u130 u131 u132 u133 u134 u135 u136 u137 u138 u139 u140 u141 u142 u143 u144 u145 u146 u147 u148 u149 u150 u151 u152 u153 u154 u155 u156 u157 u158 u159 u160 u161 u162 u163 u164 u165 u166 u167 u168 u169 u170 u171 u172 u173 u174 u175 u176 u177 u178 u179 u180 u181 u182 u183 u184 u185 u186 u187 u188 u189 u190 u191 u192 u193 u194 u195 u196 u197 u198 u199 u200 u201 u202 u203 u204 u205 u206 u207 u208 u209 u210 u211 u212 u213 u214 u215 u216 u217 u218 u219 u220 u221 u222 u223 u224 u225 u226 u227 u228 u229 u230 u231 u232 u233 u234 u235 u236 u237 u238 u239 u240 u241 u242 u243 u244 u245 u246 u247 u248 u249 u250 u251 u252 u253 u254 u255 u256 u257 u258 u259 u260 u261 u262 u263 u264 u265 u266 u267 u268 u269 u270 u271 u272 u273 u274 u275 u276 u277 u278 u279 u280 u281 u282 u283 u284 u285 u286 u287 u288 u289 u290 u291 u292 u293 u294 u295 u296 u297
  conv at hT => arg 2; whnf
  exact hT
end Go.Proofs.Qxb6600184a
