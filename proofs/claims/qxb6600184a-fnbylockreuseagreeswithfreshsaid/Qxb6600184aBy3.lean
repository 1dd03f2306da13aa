/-
  byLock, the waiting ones by queue.
-/
import Derived.Test.Qxb6600184aBy2
import Derived.Test.Qxb6600184aSz
namespace Go.Proofs.Qxb6600184a
open Go.RowKit
set_option linter.unusedSimpArgs false
set_option linter.unusedVariables false

/-- The box of the queue handed in. -/
structure BoxOk (w : World) (L M : Nat) (E : Nat → Ent) (Bx : Nat) (I : Ins) : Prop where
  lt : Bx < w.heap.size
  nL : Bx ≠ L
  nM : Bx ≠ M
  nE : ∀ i, 2 ≤ i → i < 11 → (E i).v.ownBlock ≠ some Bx
  ca : w.cell? ⟨Bx, 0, none⟩ = some (.slice I.aa I.na I.ca)
  cw : w.cell? ⟨Bx, 2, none⟩ = some (.slice I.aw I.nw I.cw)

theorem BoxOk.keep {w w' : World} {L M : Nat} {E E' : Nat → Ent} {Bx : Nat} {I : Ins} (h : BoxOk w L M E Bx I) (k : Keep w w' L M E E') : BoxOk w' L M E' Bx I := by
  have hb := k.block Bx h.lt h.nL h.nM h.nE
  refine ⟨Nat.lt_of_lt_of_le h.lt k.size, h.nL, h.nM, fun i h1 h2 e => ?_, (World.cell?_of_block (a := ⟨Bx, 0, none⟩) hb).trans h.ca, (World.cell?_of_block (a := ⟨Bx, 2, none⟩) hb).trans h.cw⟩
  rcases k.fresh i Bx h1 h2 e with ⟨j, j1, j2, hj⟩ | hge
  · exact h.nE j j1 j2 hj
  · have := h.lt; omega

/-- The row of keys, read. -/
theorem wq_read {w : World} {L M nm : Nat} {E : Nat → Ent} {c : Int} {G : ByteArray → Option (Int × Int)} {I : Ins} {a2 : Option Addr} {c2 : Nat} (h : St w L M nm E c G) (he : E 2 = wqE I I.nw (.slice a2 I.nw c2)) :
    w.cell? ⟨L, 2, none⟩ = some (.slice a2 I.nw c2) ∧ ∀ t, t < I.nw → ∃ g, a2 = some ⟨g, 0, none⟩ ∧ w.cell? ⟨g, t, none⟩ = some (.int .i64 (kw I.N t : Nat)) := by
  have p := h.ls.cellE (i := 2) (by omega) (by omega)
  have o := h.ls.own 2 (by omega) (by omega)
  rw [he] at p o
  refine ⟨p, fun t ht => ?_⟩
  simp only [wqE] at o
  obtain ⟨g, rfl⟩ := own_some o (by omega)
  exact ⟨g, rfl, (ownsRow_read o (rowL_get _ _ ht)).1⟩

def S3c (w : World) (L M nm : Nat) (E : Nat → Ent) (c : Int) (G : ByteArray → Option (Int × Int)) (I : Ins) (t : Nat) (wr : World) : Prop :=
  ∃ E' g cc, St wr L M nm E' c G ∧ Keep w wr L M E E' ∧ E' 4 = CntE I.q g cc I.κw t ∧ ∀ i, i ≠ 4 → E' i = E i
def S3p (w : World) (L M nm : Nat) (E : Nat → Ent) (c : Int) (G : ByteArray → Option (Int × Int)) (I : Ins) (t : Nat) (wr : World) : Prop :=
  ∃ E', St wr L M nm E' c G ∧ Keep w wr L M E E' ∧ SzSt E' 4 I.q I.nw I.κw I.fw t ∧ ∀ i, i ≠ 4 → i ≠ 5 → i ≠ 6 → E' i = E i

set_option maxRecDepth 100000 in
set_option maxHeartbeats 3200000 in
theorem by3a (R : Ending → World → Prop) (w : World) (L M Bx nm : Nat) (I : Ins) (E : Nat → Ent) (c : Int) (G : ByteArray → Option (Int × Int)) (v2 : Value) (F : I.Fit) (hin : I.In w M) (hst : St w L M nm E c G) (hbx : BoxOk w L M E Bx I) (he2 : E 2 = wqE I I.nw v2) (he : ∀ i, 4 ≤ i → i ≤ 6 → (E i).e = 3 ∧ (E i).sz = 1)
    (hnext : ∀ w', S3c w L M nm E c G I I.nw w' → FromB (byC 9) R L Bx I (I.q : Nat) w') : FromB (byC 7) R L Bx I (I.q : Nat) w := by
  have HN := hid hnext
  have HI := hid hin
  have HF := hid F
  have HS := hid hst
  have HB := hid hbx
  have HE2 := hid he2
  have HE := hid he
  have hnw := F.nw
  have hq := I.q_le
  have hown2 := hst.ls.own 2 (by omega) (by omega)
  rw [he2] at hown2
  simp only [wqE] at hown2
  obtain ⟨a2, c2, rfl⟩ := ownsRow_shape2 hown2
  clear hnext hin F hst he hbx he2 hown2
  intro u1 u4 u6 u7 u8 u10 u11 u12 u13 u14 u15 u16 u17 u18 u19 u20 u21 u22 u23 u24 u25 u26 u27 u28 u29 u30 u31 u32 u33 u34 u35 u36 u37 u38 u39 u40 u41 u42 u43 u44 u45 u46 u47 u48 u49 u50 u51 u52 u53 u54 u55 u56 u57 u58 u59 u60 u61 u62 u63 u64 u65 u66 u67 u68 u69 u70 u71 u72 u73 u74 u75 u76 u77 u78 u79 u80 u81 u82 u83 u84 u85 u86 u87 u88 u89 u90 u91 u92 u93 u94 u95 u96 u97 u98 u99 u100 u101 u102 u103 u104 u105 u106 u107 u108 u109 u110 u111 u112 u113 u114 u115 u116 u117 u118 u119 u120 u121 u122 u123 u124 u125 u126 u127 u128 u129 u130 u131 u132 u133 u134 u135 u136 u137 u138 u139 u140 u141 u142 u143 u144 u145 u146 u147 u148 u149 u150 u151 u152 u153 u154 u155 u156 u157 u158 u159 u160 u161 u162 u163 u164 u165 u166 u167 u168 u169 u170 u171 u172 u173 u174 u175 u176 u177 u178 u179 u180 u181 u182 u183 u184 u185 u186 u187 u188 u189 u190 u191 u192 u193 u194 u195 u196 u197 u198 u199 u200 u201 u202 u203 u204 u205 u206 u207 u208 u209 u210 u211 u212 u213 u214 u215 u216 u217 u218 u219 u220 u221 u222 u223 u224 u225 u226 u227 u228 u229 u230 u231 u232 u233 u234 u235 u236 u237 u238 u239 u240 u241 u242 u243 u244 u245 u246 u247 u248 u249 u250 u251 u252 u253 u254 u255 u256 u257 u258 u259 u260 u261 u262 u263 u264 u265 u266 u267 u268 u269 u270 u271 u272 u273 u274 u275 u276 u277 u278 u279 u280 u281 u282 u283 u284 u285 u286 u287 u288 u289 u290 u291 u292 u293 u294 u295 u296 u297
  conv => arg 2; whnf
  go_upto_region 28 with fail
  go_cut [] from 10 (fun wx => Hid (S3c w L M nm E c G I 0 wx))
  case first =>
    go_wp2_with fail
    refine (reset_any w L 4 I.q E _ _ HS.out.ls (by omega) (by omega) (HE.out 4 (by omega) (by omega)).1 (HE.out 4 (by omega) (by omega)).2 (by omega)).mono ?_
    rintro e w1 ⟨rfl, g, cc, hL1, hs1⟩
    have hS1 : Hid (S3c w L M nm E c G I 0 w1) := ⟨_, g, cc, HS.out.step hL1 hs1, hs1.keep M, by rw [upd_same, CntE.zero _ _ _ I.κw], fun i hi => upd_other _ _ hi⟩
    clear hL1 hs1
    go_wp2
    go_meet
    exact hS1
  case rest =>
  rename World => w1
  have hS1 := hcut
  clear hcut
  obtain ⟨E1, g1, cc1, hSt1, hK1, hE4, hEo⟩ := hS1.out
  have p2 := (wq_read hSt1 ((hEo 2 (by omega)).trans HE2.out)).1
  clear hSt1 hK1 hE4 hEo E1 g1 cc1
  go_upto_block 6 with fail
  clear p2
  go_cut [] from 10 (fun wx => Hid (S3c w L M nm E c G I I.nw wx))
  case first =>
    go_wp2_with fail
    go_loopg [162] I.nw (fun g s162 wr => ∃ t : Nat, t ≤ I.nw ∧ g = I.nw - t ∧ s162 = .int .i64 t ∧ Hid (S3c w L M nm E c G I t wr))
    case atStart => exact ⟨0, Nat.zero_le _, rfl, rfl, hS1⟩
    case round =>
      obtain ⟨t, ht, rfl, rfl, hS⟩ := hrel
      clear hS1
      by_cases hlt : t < I.nw
      · obtain ⟨E', g, cc, hSt, hK, hE4, hEo⟩ := hS.out
        obtain ⟨g2, rfl, r2⟩ := (wq_read hSt ((hEo 2 (by omega)).trans HE2.out)).2 t hlt
        have hzt : (t : Int) < (I.nw : Int) := by omega
        have HST := hid hSt
        have HKK := hid hK
        have HE4 := hid (And.intro hE4 hEo)
        have hkl := hid (kw_lt (N := I.N) hlt)
        clear hSt hK hE4 hEo hS
        go_wp2_with fail
        refine (count_step wr L 4 I.q g cc (kw I.N t) t I.κw E' _ _ HST.out.ls (by omega) (by omega) HE4.out.1 rfl hkl.out (by omega) (by omega)).mono ?_
        rintro e w' ⟨rfl, hL', hs'⟩
        have hSn : Hid (S3c w L M nm E c G I (t + 1) w') := ⟨_, g, cc, HST.out.step hL' hs', HKK.out.trans (hs'.keep M), upd_same _ _ _, fun i hi => by rw [upd_other _ _ hi]; exact HE4.out.2 i hi⟩
        clear hL' hs' HST HKK HE4 r2
        go_wp2
        go_roundg (I.nw - (t + 1))
        case measure => go_light; omega
        case rel => go_light; exact ⟨t + 1, by omega, rfl, by go_num, hSn⟩
      · obtain rfl : t = I.nw := by omega
        go_wp2
        go_meet
        exact hS
  case rest =>
  rename_i hK
  refine hK _ _ ?_
  have hT := HN.out _ hcut.out u1 u4 u6 u7 u8 u10 u11 u12 u13 u14 u15 u16 u17 u18 u19 u20 u21 u22 u23 u24 u25 u26 u27 u28 u29 u30 u31 u32 u33 u34 u35 u36 u37 u38 u39 u40 u41 u42 u43 u44 u45 u46 u47 u48 u49 u50 u51 u52 u53 u54 u55 u56 u57 u58 u59 u60 u61 u62 u63 u64 u65 u66 u67 u68 u69 u70 u71 u72 u73 u74 u75 u76 u77 u78 u79 u80 u81 u82 u83 u84 u85 u86 u87 u88 u89 u90 u91 u92 u93 u94 u95 u96 u97 u98 u99 u100 u101 u102 u103 u104 u105 u106 u107 u108 u109 u110 u111 u112 u113 u114 u115 u116 u117 u118 u119 u120 u121 u122 u123 u124 u125 u126 u127 u128 u129 u130 u131 u132 u133 u134 u135 u136 u137 u138 u139 u140 u141 u142 u143 u144 u145 u146 u147 u148 u149 u150 u151 u152 u153 u154 u155 u156 u157 u158 u159 u160 u161 u162 u163 u164 u165 u166 u167 u168 u169 u170 u171 u172 u173 u174 u175 u176 u177 u178 u179 u180 u181 u182 u183 u184 u185 u186 u187 u188 u189 u190 u191 u192 u193 u194 u195 u196 u197 u198 u199 u200 u201 u202 u203 u204 u205 u206 u207 u208 u209 u210 u211 u212 u213 u214 u215 u216 u217 u218 u219 u220 u221 u222 u223 u224 u225 u226 u227 u228 u229 u230 u231 u232 u233 u234 u235 u236 u237 u238 u239 u240 u241 u242 u243 u244 u245 u246 u247 u248 u249 u250 u251 u252 u253 u254 u255 u256 u257 u258 u259 u260 u261 u262 u263 u264 u265 u266 u267 u268 u269 u270 u271 u272 u273 u274 u275 u276 u277 u278 u279 u280 u281 u282 u283 u284 u285 u286 u287 u288 u289 u290 u291 u292 u293 u294 u295 u296 u297
  conv at hT => arg 2; whnf
  exact hT

set_option maxRecDepth 100000 in
set_option maxHeartbeats 3200000 in
theorem by3b (R : Ending → World → Prop) (w w2 : World) (L M Bx nm : Nat) (I : Ins) (E : Nat → Ent) (c : Int) (G : ByteArray → Option (Int × Int)) (v2 : Value) (F : I.Fit) (hin : I.In w M) (hst : St w L M nm E c G) (hbx : BoxOk w L M E Bx I) (he2 : E 2 = wqE I I.nw v2) (he : ∀ i, 4 ≤ i → i ≤ 6 → (E i).e = 3 ∧ (E i).sz = 1)
    (hS2' : S3c w L M nm E c G I I.nw w2) (hnext : ∀ w', S3p w L M nm E c G I I.nw w' → FromB (byC 11) R L Bx I (I.q : Nat) w') : FromB (byC 9) R L Bx I (I.q : Nat) w2 := by
  have hS2 := hid hS2'
  clear hS2'
  have HN := hid hnext
  have HI := hid hin
  have HF := hid F
  have HS := hid hst
  have HB := hid hbx
  have HE2 := hid he2
  have HE := hid he
  have hnw := F.nw
  have hq := I.q_le
  have hown2 := hst.ls.own 2 (by omega) (by omega)
  rw [he2] at hown2
  simp only [wqE] at hown2
  obtain ⟨a2, c2, rfl⟩ := ownsRow_shape2 hown2
  clear hnext hin F hst he hbx he2 hown2
  intro u1 u4 u6 u7 u8 u10 u11 u12 u13 u14 u15 u16 u17 u18 u19 u20 u21 u22 u23 u24 u25 u26 u27 u28 u29 u30 u31 u32 u33 u34 u35 u36 u37 u38 u39 u40 u41 u42 u43 u44 u45 u46 u47 u48 u49 u50 u51 u52 u53 u54 u55 u56 u57 u58 u59 u60 u61 u62 u63 u64 u65 u66 u67 u68 u69 u70 u71 u72 u73 u74 u75 u76 u77 u78 u79 u80 u81 u82 u83 u84 u85 u86 u87 u88 u89 u90 u91 u92 u93 u94 u95 u96 u97 u98 u99 u100 u101 u102 u103 u104 u105 u106 u107 u108 u109 u110 u111 u112 u113 u114 u115 u116 u117 u118 u119 u120 u121 u122 u123 u124 u125 u126 u127 u128 u129 u130 u131 u132 u133 u134 u135 u136 u137 u138 u139 u140 u141 u142 u143 u144 u145 u146 u147 u148 u149 u150 u151 u152 u153 u154 u155 u156 u157 u158 u159 u160 u161 u162 u163 u164 u165 u166 u167 u168 u169 u170 u171 u172 u173 u174 u175 u176 u177 u178 u179 u180 u181 u182 u183 u184 u185 u186 u187 u188 u189 u190 u191 u192 u193 u194 u195 u196 u197 u198 u199 u200 u201 u202 u203 u204 u205 u206 u207 u208 u209 u210 u211 u212 u213 u214 u215 u216 u217 u218 u219 u220 u221 u222 u223 u224 u225 u226 u227 u228 u229 u230 u231 u232 u233 u234 u235 u236 u237 u238 u239 u240 u241 u242 u243 u244 u245 u246 u247 u248 u249 u250 u251 u252 u253 u254 u255 u256 u257 u258 u259 u260 u261 u262 u263 u264 u265 u266 u267 u268 u269 u270 u271 u272 u273 u274 u275 u276 u277 u278 u279 u280 u281 u282 u283 u284 u285 u286 u287 u288 u289 u290 u291 u292 u293 u294 u295 u296 u297
  conv => arg 2; whnf
  go_upto_region 34 with fail
  go_cut [] from 10 (fun wx => Hid (S3p w L M nm E c G I 0 wx))
  case first =>
    obtain ⟨E', g, cc, hSt, hK, hE4, hEo⟩ := hS2.out
    have HST := hid hSt
    have HKK := hid hK
    have HE4 := hid (And.intro hE4 hEo)
    have hsum := sum_cfT I.κw I.q I.nw
    have t5 := HE.out 5 (by omega) (by omega)
    have t6 := HE.out 6 (by omega) (by omega)
    rw [← hEo 5 (by omega)] at t5
    rw [← hEo 6 (by omega)] at t6
    clear hSt hK hE4 hEo hS2
    go_wp2_with fail
    refine (layOut_any w2 L 4 I.q g cc (cfT I.κw I.nw) E' _ _ HST.out.ls (by omega) (by omega) HE4.out.1 t5 t6 (by omega) (by omega)).mono ?_
    rintro e w' ⟨rfl, hLd⟩
    obtain ⟨E3, hl3, hs3, hz3, ho3⟩ := hLd.sz I.fw (by omega) (by omega)
    have hSn : Hid (S3p w L M nm E c G I 0 w') := ⟨E3, HST.out.step hl3 hs3, HKK.out.trans (hs3.keep M), hz3, fun i i4 i5 i6 => (ho3 i i4 i5 i6).trans (HE4.out.2 i i4)⟩
    clear hLd hl3 hs3 hz3 ho3 HST HKK HE4 t5 t6 hsum
    go_wp2
    go_meet
    exact hSn
  case rest =>
  rename World => w3
  have hS3 := hcut
  clear hcut hS2
  obtain ⟨E1, hSt1, hK1, _, _⟩ := hS3.out
  have p5 := (HB.out.keep hK1).cw
  clear hSt1 hK1
  go_upto_block 8 with fail
  clear p5
  go_cut [] from 10 (fun wx => Hid (S3p w L M nm E c G I I.nw wx))
  case first =>
    go_wp2_with fail
    go_loopg [179] I.nw (fun g s179 wr => ∃ t : Nat, t ≤ I.nw ∧ g = I.nw - t ∧ s179 = .int .i64 t ∧ Hid (S3p w L M nm E c G I t wr))
    case atStart => exact ⟨0, Nat.zero_le _, rfl, rfl, hS3⟩
    case round =>
      obtain ⟨t, ht, rfl, rfl, hS⟩ := hrel
      clear hS3
      by_cases hlt : t < I.nw
      · obtain ⟨E', hSt, hK, hz, hEo⟩ := hS.out
        obtain ⟨p2, p2'⟩ := wq_read hSt ((hEo 2 (by omega) (by omega) (by omega)).trans HE2.out)
        obtain ⟨g2, rfl, r2⟩ := p2' t hlt
        obtain ⟨b, off, e, hb, hcl⟩ := HI.out.hw (by omega)
        have g0 : wr.cell? ⟨b, off + t, none⟩ = some (.int .i64 (I.fw t)) := ((hK.below HS.out).cell (a := ⟨b, off + t, none⟩) hb).trans (hcl t hlt)
        rw [e]
        have HAW := hid e
        have hzt : (t : Int) < (I.nw : Int) := by omega
        have HST := hid hSt
        have HKK := hid hK
        have HZ := hid (And.intro hz hEo)
        have hkl := hid (kw_lt (N := I.N) hlt)
        clear hSt hK hz hEo hS p2' e hcl
        go_upto_region 38 with fail
        go_region_held3 (fun w' => w'.cell? ⟨L, 2, none⟩ = some (.slice (some ⟨g2, 0, none⟩) I.nw c2) ∧ w'.cell? ⟨g2, t, none⟩ = some (.int .i64 (kw I.N t : Nat))) (first | (simp only [World.cell?_drew]; exact ⟨p2, r2⟩) | exact ⟨m1, m2⟩)
          (first | (go_at_call 32; refine (put_step wr.drew L 4 I.q I.nw (kw I.N t) t I.κw I.fw E' _ _ HST.out.ls.drew.1 (by omega) (by omega) HZ.out.1 rfl hkl.out (by omega) hlt (by omega)).mono ?_
                    rintro e w' ⟨⟨r, rfl⟩, E2, hL2, hs2, hz2, ho2⟩
                    have hSt2 := HST.out.step hL2 (HST.out.ls.drew.2.trans hs2)
                    have hE22 := (ho2 2 (by omega) (by omega) (by omega)).trans ((HZ.out.2 2 (by omega) (by omega) (by omega)).trans HE2.out)
                    obtain ⟨m1, m2'⟩ := wq_read hSt2 hE22
                    have m2 : w'.cell? ⟨g2, t, none⟩ = some (.int .i64 (kw I.N t : Nat)) := by obtain ⟨g', eg, h⟩ := m2' t hlt; cases eg; exact h
                    have hSn : Hid (S3p w L M nm E c G I (t + 1) w') := ⟨E2, hSt2, HKK.out.trans ((HST.out.ls.drew.2.trans hs2).keep M), hz2, fun i i4 i5 i6 => (ho2 i i4 i5 i6).trans (HZ.out.2 i i4 i5 i6)⟩
                    clear hL2 hs2 hz2 ho2 hSt2 hE22 m2'))
        clear m1 m2 p2 r2 g0 HST HKK HZ
        go_wp2
        rw [← HAW.out]
        go_roundg (I.nw - (t + 1))
        case measure => go_light; omega
        case rel => go_light; exact ⟨t + 1, by omega, rfl, by go_num, hSn⟩
      · obtain rfl : t = I.nw := by omega
        go_wp2
        go_meet
        exact hS
  case rest =>
  rename_i hK
  refine hK _ _ ?_
  have hT := HN.out _ hcut.out u1 u4 u6 u7 u8 u10 u11 u12 u13 u14 u15 u16 u17 u18 u19 u20 u21 u22 u23 u24 u25 u26 u27 u28 u29 u30 u31 u32 u33 u34 u35 u36 u37 u38 u39 u40 u41 u42 u43 u44 u45 u46 u47 u48 u49 u50 u51 u52 u53 u54 u55 u56 u57 u58 u59 u60 u61 u62 u63 u64 u65 u66 u67 u68 u69 u70 u71 u72 u73 u74 u75 u76 u77 u78 u79 u80 u81 u82 u83 u84 u85 u86 u87 u88 u89 u90 u91 u92 u93 u94 u95 u96 u97 u98 u99 u100 u101 u102 u103 u104 u105 u106 u107 u108 u109 u110 u111 u112 u113 u114 u115 u116 u117 u118 u119 u120 u121 u122 u123 u124 u125 u126 u127 u128 u129 u130 u131 u132 u133 u134 u135 u136 u137 u138 u139 u140 u141 u142 u143 u144 u145 u146 u147 u148 u149 u150 u151 u152 u153 u154 u155 u156 u157 u158 u159 u160 u161 u162 u163 u164 u165 u166 u167 u168 u169 u170 u171 u172 u173 u174 u175 u176 u177 u178 u179 u180 u181 u182 u183 u184 u185 u186 u187 u188 u189 u190 u191 u192 u193 u194 u195 u196 u197 u198 u199 u200 u201 u202 u203 u204 u205 u206 u207 u208 u209 u210 u211 u212 u213 u214 u215 u216 u217 u218 u219 u220 u221 u222 u223 u224 u225 u226 u227 u228 u229 u230 u231 u232 u233 u234 u235 u236 u237 u238 u239 u240 u241 u242 u243 u244 u245 u246 u247 u248 u249 u250 u251 u252 u253 u254 u255 u256 u257 u258 u259 u260 u261 u262 u263 u264 u265 u266 u267 u268 u269 u270 u271 u272 u273 u274 u275 u276 u277 u278 u279 u280 u281 u282 u283 u284 u285 u286 u287 u288 u289 u290 u291 u292 u293 u294 u295 u296 u297
  conv at hT => arg 2; whnf
  exact hT
theorem by3 (R : Ending → World → Prop) (w : World) (L M Bx nm : Nat) (I : Ins) (E : Nat → Ent) (c : Int) (G : ByteArray → Option (Int × Int)) (v2 : Value) (F : I.Fit) (hin : I.In w M) (hst : St w L M nm E c G) (hbx : BoxOk w L M E Bx I) (he2 : E 2 = wqE I I.nw v2) (he : ∀ i, 4 ≤ i → i ≤ 6 → (E i).e = 3 ∧ (E i).sz = 1)
    (hnext : ∀ w', S3p w L M nm E c G I I.nw w' → FromB (byC 11) R L Bx I (I.q : Nat) w') : FromB (byC 7) R L Bx I (I.q : Nat) w :=
  by3a R w L M Bx nm I E c G v2 F hin hst hbx he2 he fun w2 h2 => by3b R w w2 L M Bx nm I E c G v2 F hin hst hbx he2 he h2 hnext
end Go.Proofs.Qxb6600184a
