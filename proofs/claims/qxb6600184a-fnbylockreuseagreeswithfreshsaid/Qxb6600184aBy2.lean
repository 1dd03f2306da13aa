/-
  byLock, her second loop: the key of each lock taken.
-/
import Derived.Test.Qxb6600184aBy1
namespace Go.Proofs.Qxb6600184a
open Go.RowKit
set_option linter.unusedSimpArgs false
set_option linter.unusedVariables false

/-- The row of the keys of the first t locks taken. -/
def tqE (I : Ins) (t : Nat) (v : Value) : Ent := ⟨3, 1, v, t, rowL t (fun i => .int .i64 (I.κa i))⟩

/-- The state in her second loop, t locks seen. -/
def S2 (w : World) (L M nm : Nat) (E : Nat → Ent) (c : Int) (G : ByteArray → Option (Int × Int)) (I : Ins) (t : Nat) (wr : World) : Prop :=
  ∃ E' v, St wr L M nm E' c (over (dst I.N I.nw) c G) ∧ Keep w wr L M E E' ∧ E' 3 = tqE I t v ∧ ∀ i, i ≠ 3 → E' i = E i

/-- Is the name among those waited for? -/
def isIn (I : Ins) (s : ByteArray) : Bool := decide (0 ≤ I.keyOf s)
theorem isIn_mem {I : Ins} {s : ByteArray} (h : s ∈ dst I.N I.nw) : isIn I s = true := by unfold isIn Ins.keyOf; rw [keyIn_mem h]; simp
theorem isIn_not {I : Ins} {s : ByteArray} (h : ¬ s ∈ dst I.N I.nw) : isIn I s = false := by unfold isIn Ins.keyOf; rw [keyIn_not h]; simp
theorem key_not {I : Ins} {s : ByteArray} (h : isIn I s = false) : I.keyOf s = -1 := by
  by_cases m : s ∈ dst I.N I.nw
  · rw [isIn_mem m] at h; cases h
  · exact keyIn_not m
theorem key_mem {I : Ins} {s : ByteArray} (h : isIn I s = true) (c : Int) (G : ByteArray → Option (Int × Int)) : over (dst I.N I.nw) c G s = some (c, I.keyOf s) := by
  by_cases m : s ∈ dst I.N I.nw
  · unfold Ins.keyOf; rw [over_mem m, keyIn_mem m]
  · rw [isIn_not m] at h; cases h

set_option maxRecDepth 100000 in
set_option maxHeartbeats 3200000 in
theorem by2 (R : Ending → World → Prop) (w : World) (L M Bx nm : Nat) (I : Ins) (E : Nat → Ent) (c : Int) (G : ByteArray → Option (Int × Int)) (q : Int) (F : I.Fit) (hin : I.In w M) (hst : St w L M nm E c (over (dst I.N I.nw) c G)) (he : (E 3).e = 3 ∧ (E 3).sz = 1) (hold : ∀ s a b, G s = some (a, b) → a < c)
    (hnext : ∀ w', S2 w L M nm E c G I I.nt w' → FromB (byC 7) R L Bx I q w') : FromB (byC 5) R L Bx I q w := by
  have HN := hid hnext
  have HO := hid hold
  have HI := hid hin
  have HF := hid F
  have HS := hid hst
  have hna := F.na
  have hnt := F.nt
  have o3 := hst.ls.own 3 (by omega) (by omega)
  rw [he.1, he.2] at o3
  obtain ⟨a3, c3, hv3⟩ := ownsRow_shape2 o3
  have p3 := hst.ls.cellE (i := 3) (by omega) (by omega)
  have f3 := hst.ls.frozen 3
  rw [hv3] at o3 p3
  have oz := ownsRow_zero o3
  have sl0 := fun m => slice_head oz m 0 (Nat.zero_le _)
  simp only [Int.natCast_zero] at sl0
  obtain ⟨hLf, hsf⟩ := hst.ls.field (i := 3) (by omega) (by omega) (w1 := w) ⟨rfl, rfl, rfl, Nat.le_refl _, fun _ _ _ => rfl⟩ oz (fun b hb => by left; rw [hv3, ownBlock_of a3 _ _ 0 c3]; exact hb)
  have HS0 := hid (show S2 w L M nm E c G I 0 (w.setCell ⟨L, 3, none⟩ (.slice a3 0 c3)) from ⟨_, .slice a3 0 c3, hst.step hLf hsf, hsf.keep M, upd_same _ _ _, fun i hi => upd_other _ _ hi⟩)
  obtain ⟨m3, hm3⟩ : ∃ m3, m3 = (E 3).n := ⟨_, rfl⟩
  rw [← hm3] at p3
  clear hnext hold hin F hst he o3 hv3 oz hLf hsf hm3
  intro u1 u4 u6 u7 u8 u10 u11 u12 u13 u14 u15 u16 u17 u18 u19 u20 u21 u22 u23 u24 u25 u26 u27 u28 u29 u30 u31 u32 u33 u34 u35 u36 u37 u38 u39 u40 u41 u42 u43 u44 u45 u46 u47 u48 u49 u50 u51 u52 u53 u54 u55 u56 u57 u58 u59 u60 u61 u62 u63 u64 u65 u66 u67 u68 u69 u70 u71 u72 u73 u74 u75 u76 u77 u78 u79 u80 u81 u82 u83 u84 u85 u86 u87 u88 u89 u90 u91 u92 u93 u94 u95 u96 u97 u98 u99 u100 u101 u102 u103 u104 u105 u106 u107 u108 u109 u110 u111 u112 u113 u114 u115 u116 u117 u118 u119 u120 u121 u122 u123 u124 u125 u126 u127 u128 u129 u130 u131 u132 u133 u134 u135 u136 u137 u138 u139 u140 u141 u142 u143 u144 u145 u146 u147 u148 u149 u150 u151 u152 u153 u154 u155 u156 u157 u158 u159 u160 u161 u162 u163 u164 u165 u166 u167 u168 u169 u170 u171 u172 u173 u174 u175 u176 u177 u178 u179 u180 u181 u182 u183 u184 u185 u186 u187 u188 u189 u190 u191 u192 u193 u194 u195 u196 u197 u198 u199 u200 u201 u202 u203 u204 u205 u206 u207 u208 u209 u210 u211 u212 u213 u214 u215 u216 u217 u218 u219 u220 u221 u222 u223 u224 u225 u226 u227 u228 u229 u230 u231 u232 u233 u234 u235 u236 u237 u238 u239 u240 u241 u242 u243 u244 u245 u246 u247 u248 u249 u250 u251 u252 u253 u254 u255 u256 u257 u258 u259 u260 u261 u262 u263 u264 u265 u266 u267 u268 u269 u270 u271 u272 u273 u274 u275 u276 u277 u278 u279 u280 u281 u282 u283 u284 u285 u286 u287 u288 u289 u290 u291 u292 u293 u294 u295 u296 u297
  conv => arg 2; whnf
  go_upto_block 2 with fail
  generalize w.setCell ⟨L, 3, none⟩ (.slice a3 0 c3) = w0 at HS0 ⊢
  clear p3 f3 sl0
  go_cut [] from 10 (fun wx => Hid (S2 w L M nm E c G I I.nt wx))
  case first =>
    go_wp2_with fail
    go_loopg [109] I.na (fun g s109 wr => ∃ i : Nat, i ≤ I.na ∧ g = I.na - i ∧ s109 = .int .i64 i ∧ Hid (S2 w L M nm E c G I (pos I.xl i) wr))
    case atStart => exact ⟨0, Nat.zero_le _, rfl, rfl, HS0⟩
    case round =>
      obtain ⟨i, hi, rfl, rfl, hS⟩ := hrel
      clear HS0
      by_cases hlt : i < I.na
      · obtain ⟨b, off, e, hb, hcl⟩ := HI.out.hx (by omega)
        obtain ⟨ai, ci, hc1, hc2⟩ := hcl i hlt
        rw [e]
        have HAX := hid e
        obtain ⟨E', v, hSt, hK, hE3, hEo⟩ := hS.out
        have g0 : wr.cell? ⟨b, off + i, none⟩ = some (.slice ai (I.xl i) ci) := ((hK.below HS.out).cell (a := ⟨b, off + i, none⟩) hb).trans hc1
        have hzi : (i : Int) < (I.na : Int) := by omega
        have hxl : I.xl i ≤ 4096 := by have h1 := pos_mono I.xl (show i + 1 ≤ I.na by omega); have h2 : pos I.xl (i + 1) = pos I.xl i + I.xl i := rfl; have h3 : I.nt = pos I.xl I.na := rfl; omega
        have HC2 := hid hc2
        clear hcl hc1 hc2 e hSt hK hE3 hEo E' v
        go_wp2_with fail
        go_loopg [115] (I.xl i) (fun g s115 wr => ∃ r : Nat, r ≤ I.xl i ∧ g = I.xl i - r ∧ s115 = .int .i64 r ∧ Hid (S2 w L M nm E c G I (pos I.xl i + r) wr))
        case atStart => exact ⟨0, Nat.zero_le _, rfl, rfl, hS⟩
        case round =>
          obtain ⟨r, hr, rfl, rfl, hSr⟩ := hrel
          clear hS g0
          by_cases hrl : r < I.xl i
          · obtain ⟨E', v, hSt, hK, hE3, hEo⟩ := hSr.out
            obtain ⟨b2, off2, rfl, hb2, hcl2⟩ := HC2.out (by omega)
            have g1 : wr.cell? ⟨b2, off2 + r, none⟩ = some (.string (I.X i r)) := ((hK.below HS.out).cell (a := ⟨b2, off2 + r, none⟩) hb2).trans (hcl2 r hrl)
            have hzr : (r : Int) < (I.xl i : Int) := by omega
            have q1 : wr.cell? ⟨L, 1, none⟩ = some (.map (some M)) := hSt.ls.cell (i := 1) (by omega)
            have hlk := hSt.map.lookup (HF.out.okX i hlt r hrl)
            rw [lookV_eq] at hlk
            generalize hod : over (dst I.N I.nw) c G (I.X i r) = od at hlk
            have HOD := hid hod
            have HST := hid hSt
            have HKK := hid hK
            have HE := hid (And.intro hE3 hEo)
            have hka := hid (I.κa_at hlt hrl)
            have hpl : pos I.xl i + r < 4096 := by have h1 := pos_lt I.xl hlt hrl; have h3 : I.nt = pos I.xl I.na := rfl; omega
            generalize I.X i r = nmx at g1 hlk HOD hka
            clear hcl2 hod hSt hK hE3 hEo hSr HC2
            go_upto_region 23 with fail
            obtain ⟨wx, hwx, hsx, hxl2, b0, b1, f0, f1⟩ := box2 wr (la od) (lb od)
            rw [← hwx]
            obtain ⟨hStx, hKx⟩ := HST.out.since hsx
            have q0' : wx.cell? ⟨L, 0, none⟩ = some (.int .i64 c) := hStx.ls.cell (i := 0) (by omega)
            have HSX := hid hStx
            have HKX := hid (HKK.out.trans hKx)
            clear hwx g1 q1 hlk hStx hKx HST HKK f0 f1
            go_cut [20, 137] from 119 to 136 (fun s20 s137 wy => s137 = .bool (isIn I nmx) ∧ wx.Since wx.heap.size wy)
            case first =>
              by_cases hm : nmx ∈ dst I.N I.nw
              · have hd := hid (isIn_mem hm)
                have e1 : od = some (c, I.keyOf nmx) := by rw [← HOD.out, key_mem hd.out]
                subst e1
                have ecc : (c == c) = true := by simp
                clear hm
                simp only [la, lb, Option.isSome] at b0 b1 ⊢
                go_quiet (fail)
                go_wp2
                go_meet
                exact ⟨by rw [hd.out], by first | exact World.Since.refl _ _ | exact (World.Since.refl _ _).drew | exact Since.drewN (World.Since.refl _ _) _⟩
              · have e1 : od = G nmx := by rw [← HOD.out, over_not hm]
                have hd := hid (isIn_not hm)
                cases od with
                | none =>
                  clear hm e1
                  simp only [la, lb, Option.isSome] at b0 b1 ⊢
                  go_quiet (fail)
                  go_wp2
                  go_meet
                  exact ⟨by rw [hd.out], by first | exact World.Since.refl _ _ | exact (World.Since.refl _ _).drew | exact Since.drewN (World.Since.refl _ _) _⟩
                | some p =>
                  have hp := HO.out nmx p.1 p.2 e1.symm
                  have epc : (p.1 == c) = false := by simp; omega
                  clear hm e1
                  simp only [la, lb, Option.isSome] at b0 b1 ⊢
                  go_quiet (fail)
                  go_wp2
                  go_meet
                  exact ⟨by rw [hd.out], by first | exact World.Since.refl _ _ | exact (World.Since.refl _ _).drew | exact Since.drewN (World.Since.refl _ _) _⟩
            case rest =>
            rename World => wy
            obtain ⟨rfl, hsy⟩ := hcut
            obtain ⟨hSty, hKy⟩ := HSX.out.since hsy
            have y1 : wy.cell? ⟨wr.heap.size, 1, none⟩ = some (.int .i64 (lb od)) := (hsy.cell (a := ⟨wr.heap.size, 1, none⟩) hxl2).trans b1
            have HSY := hid hSty
            have HKY := hid (HKX.out.trans hKy)
            clear hSty hKy q0' b0 b1 hsy hsx HSX HKX
            rename_i hKc
            refine hKc _ _ ?_
            go_cut [18, 137] from 138 to 139 (fun s18 s137 wz => s18 = .int .i64 (I.keyOf nmx) ∧ wy = wz)
            case first =>
              cases hin : isIn I nmx
              · have hk := hid (key_not hin)
                clear hin
                go_wp2
                go_meet
                exact ⟨by rw [hk.out], rfl⟩
              · have e1 : od = some (c, I.keyOf nmx) := by rw [← HOD.out, key_mem hin]
                subst e1
                have y1' : wy.cell? ⟨wr.heap.size, 1, none⟩ = some (.int .i64 (I.keyOf nmx)) := y1
                clear hin y1
                go_wp2
                go_meet
                exact ⟨rfl, rfl⟩
            case rest =>
            obtain ⟨rfl, rfl⟩ := hcut
            clear y1
            have hSt := HSY.out
            have hown := hSt.ls.own 3 (by omega) (by omega)
            rw [HE.out.1] at hown
            simp only [tqE] at hown
            have p3 : wy.cell? ⟨L, 3, none⟩ = some v := by have := hSt.ls.cellE (i := 3) (by omega) (by omega); rw [HE.out.1] at this; exact this
            obtain ⟨i0, hi0, hz0, hz1, hz2⟩ := info_parts Try.info3
            have hL := hSt.ls.lt
            obtain ⟨av, cv, rfl⟩ := ownsRow_shape2 hown
            obtain ⟨hLa, hsa⟩ := hSt.ls.alloc (.cells #[.int .i64 (I.keyOf nmx)] 3)
            have HOW := hid (show (wy.alloc (.cells #[.int .i64 (I.keyOf nmx)] 3)).ownsRow (L + 1) 3 1 (.slice av (pos I.xl i + r) cv) (pos I.xl i + r) (rowL (pos I.xl i + r) (fun i => .int .i64 (I.κa i))) from hown.alloc _)
            have HLA := hid hLa
            have HSA := hid hsa
            have hnews := hid (news1 wy (.int .i64 (I.keyOf nmx)))
            clear hSt hown hLa hsa
            go_wp2_with (at_builtin; refine wpList_append_lies _ rfl (.tmp 144) (.tmp 146) 22 rfl (L + 1) 3 i0 (.int .i64 0) 1 8 Try.underlying22 hi0 hz0 hz1 hz2 rfl (by decide) (.slice av (pos I.xl i + r) cv) (pos I.xl i + r) _ rfl HOW.out ⟨wy.heap.size, 0, none⟩ 1 1 [.int .i64 (I.keyOf nmx)] rfl rfl hnews.out (one1 _) (by omega) (by unfold maxLen; omega) (by omega) (by simp; omega) (wy.heap.size + 1) (by simp) ?_)
            intro g cap w1 hown1 hg1 hat hlt1
            have dL : some L ≠ (Value.slice av (pos I.xl i + r) cv).ownBlock := fun e => by have := (HOW.out.lt L e.symm).1; omega
            have r1 : w1.cell? ⟨L, 3, none⟩ = some (.slice av (pos I.xl i + r) cv) := hg1.cell (old1 p3 _) dL
            have r3 : w1.frozen? ⟨L, 3, none⟩ = false := by rw [World.frozen?_of_block (w := wy.alloc (.cells #[.int .i64 (I.keyOf nmx)] 3)) (hg1.block L HLA.out.lt dL)]; exact HLA.out.frozen 3
            obtain ⟨hLf, hsf⟩ := HLA.out.field (i := 3) (by omega) (by omega) (w1 := w1) (by rw [HE.out.1]; exact hg1) hown1 (fun b hb => by
              simp only [Value.ownBlock, Option.some.injEq] at hb
              subst hb
              rcases hat with e | e
              · left; rw [HE.out.1]; exact e
              · right; simp; omega)
            have hrow : rowL (pos I.xl i + r) (fun i => Value.int .i64 (I.κa i)) ++ [.int .i64 (I.keyOf nmx)] = rowL (pos I.xl i + (r + 1)) (fun i => .int .i64 (I.κa i)) := by rw [← hka.out, ← Nat.add_assoc]; simp [rowL, List.range_succ]
            rw [hrow] at hLf hsf
            have hSn : Hid (S2 w L M nm E c G I (pos I.xl i + (r + 1)) (w1.setCell ⟨L, 3, none⟩ (.slice (some ⟨g, 0, none⟩) (pos I.xl i + r + 1) cap))) := ⟨_, .slice (some ⟨g, 0, none⟩) (pos I.xl i + r + 1) cap, HSY.out.step hLf (HSA.out.trans hsf), HKY.out.trans ((HSA.out.trans hsf).keep M), upd_same _ _ _, fun j hj => by rw [upd_other _ _ hj]; exact HE.out.2 j hj⟩
            clear hLf hsf hrow hown1 hg1 hat HOW hnews HLA HSA HSY HKY p3
            go_wp2
            go_roundg (I.xl i - (r + 1))
            case measure => go_light; omega
            case rel => go_light; exact ⟨r + 1, by omega, rfl, by go_num, hSn⟩
          · obtain rfl : r = I.xl i := by omega
            go_wp2
            rw [← HAX.out]
            go_roundg (I.na - (i + 1))
            case measure => go_light; omega
            case rel => go_light; exact ⟨i + 1, by omega, rfl, by go_num, hSr⟩
      · obtain rfl : i = I.na := by omega
        go_wp2
        go_meet
        exact hS
  case rest =>
  rename_i hK
  refine hK _ _ ?_
  have hT := HN.out _ hcut.out u1 u4 u6 u7 u8 u10 u11 u12 u13 u14 u15 u16 u17 u18 u19 u20 u21 u22 u23 u24 u25 u26 u27 u28 u29 u30 u31 u32 u33 u34 u35 u36 u37 u38 u39 u40 u41 u42 u43 u44 u45 u46 u47 u48 u49 u50 u51 u52 u53 u54 u55 u56 u57 u58 u59 u60 u61 u62 u63 u64 u65 u66 u67 u68 u69 u70 u71 u72 u73 u74 u75 u76 u77 u78 u79 u80 u81 u82 u83 u84 u85 u86 u87 u88 u89 u90 u91 u92 u93 u94 u95 u96 u97 u98 u99 u100 u101 u102 u103 u104 u105 u106 u107 u108 u109 u110 u111 u112 u113 u114 u115 u116 u117 u118 u119 u120 u121 u122 u123 u124 u125 u126 u127 u128 u129 u130 u131 u132 u133 u134 u135 u136 u137 u138 u139 u140 u141 u142 u143 u144 u145 u146 u147 u148 u149 u150 u151 u152 u153 u154 u155 u156 u157 u158 u159 u160 u161 u162 u163 u164 u165 u166 u167 u168 u169 u170 u171 u172 u173 u174 u175 u176 u177 u178 u179 u180 u181 u182 u183 u184 u185 u186 u187 u188 u189 u190 u191 u192 u193 u194 u195 u196 u197 u198 u199 u200 u201 u202 u203 u204 u205 u206 u207 u208 u209 u210 u211 u212 u213 u214 u215 u216 u217 u218 u219 u220 u221 u222 u223 u224 u225 u226 u227 u228 u229 u230 u231 u232 u233 u234 u235 u236 u237 u238 u239 u240 u241 u242 u243 u244 u245 u246 u247 u248 u249 u250 u251 u252 u253 u254 u255 u256 u257 u258 u259 u260 u261 u262 u263 u264 u265 u266 u267 u268 u269 u270 u271 u272 u273 u274 u275 u276 u277 u278 u279 u280 u281 u282 u283 u284 u285 u286 u287 u288 u289 u290 u291 u292 u293 u294 u295 u296 u297
  conv at hT => arg 2; whnf
  exact hT
end Go.Proofs.Qxb6600184a
