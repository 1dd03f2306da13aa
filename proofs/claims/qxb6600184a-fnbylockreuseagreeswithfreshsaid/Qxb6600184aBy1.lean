/-
  byLock, her first loop: the key of each waiting one.
-/
import Derived.Test.Qxb6600184aByCode
import Derived.Deep.AppendLies
import Derived.Deep.RegionHeld3
import Derived.Deep.DrawnRows
import Derived.Deep.CutBlock
namespace Go.Proofs.Qxb6600184a
open Go.RowKit
set_option linter.unusedSimpArgs false
set_option linter.unusedVariables false

/-- The row of the keys of the first j waiting ones. -/
def wqE (I : Ins) (j : Nat) (v : Value) : Ent := ⟨3, 1, v, j, rowL j (fun i => .int .i64 (kw I.N i : Nat))⟩

/-- What a look-up gives, by its parts. -/
def la : Option (Int × Int) → Int
  | none => 0
  | some p => p.1
def lb : Option (Int × Int) → Int
  | none => 0
  | some p => p.2
theorem lookV_eq (o : Option (Int × Int)) : lookV o = .tuple #[.agg #[.int .i64 (la o), .int .i64 (lb o)], .bool o.isSome] := by cases o <;> rfl

/-- The state in her first loop, j names seen. -/
def S1 (w : World) (L M nm : Nat) (E : Nat → Ent) (c : Int) (G : ByteArray → Option (Int × Int)) (I : Ins) (j : Nat) (wr : World) : Prop :=
  ∃ E' nm' v, St wr L M nm' E' c (over (dst I.N j) c G) ∧ Keep w wr L M E E' ∧ nm' ≤ nm + j ∧ E' 2 = wqE I j v ∧ ∀ i, i ≠ 2 → E' i = E i

/-- The state in her first loop, name j seen, her key not yet laid down: the box at B holds it. -/
def S1' (w : World) (L M nm : Nat) (E : Nat → Ent) (c : Int) (G : ByteArray → Option (Int × Int)) (I : Ins) (j B : Nat) (wr : World) : Prop :=
  wr.cell? ⟨B, 1, none⟩ = some (.int .i64 (kw I.N j : Nat)) ∧ ∃ E' nm' v, St wr L M nm' E' c (over (dst I.N (j + 1)) c G) ∧ Keep w wr L M E E' ∧ nm' ≤ nm + (j + 1) ∧ (∀ i, 2 ≤ i → i < 11 → (E' i).v.ownBlock ≠ some B) ∧ E' 2 = wqE I j v ∧ ∀ i, i ≠ 2 → E' i = E i

theorem St.box {w0 w1 : World} {L M nm B : Nat} {E0 E : Nat → Ent} {c : Int} {G : ByteArray → Option (Int × Int)} (h : St w1 L M nm E c G) (hB : B ≠ L ∧ B ≠ M ∧ ∀ i, 2 ≤ i → i < 11 → (E i).v.ownBlock ≠ some B) (hw : w0.heap.size ≤ B) (hk : Keep w0 w1 L M E0 E) (o : Nat) (x : Value) :
    St (w1.setCell ⟨B, o, none⟩ x) L M nm E c G ∧ Keep w0 (w1.setCell ⟨B, o, none⟩ x) L M E0 E := by
  have hg : w1.grownBy (w1.setCell ⟨B, o, none⟩ x) (some B) := ⟨rfl, rfl, rfl, by simp, fun k _ hk => blk_set _ _ _ _ (fun e => hk (by subst e; rfl))⟩
  refine ⟨⟨h.ls.other hg hB.1 hB.2.2, h.map.block (blk_set _ _ _ _ (fun e => hB.2.1 e.symm)), h.ml⟩, hk.os, hk.tape, hk.output, by simpa using hk.size, fun k h1 h2 h3 h4 => ?_, hk.fresh⟩
  rw [blk_set _ _ _ _ (by show k ≠ B; omega)]
  exact hk.block k h1 h2 h3 h4

/-- A world with one block more than wz, in which the lockSplit, her row of keys and the box are as they were. -/
structure HAB (wz wa : World) (L B : Nat) (E : Nat → Ent) (c0 c1 v x : Value) : Prop where
  ls : LS wa L E c0 c1
  st : Step wz wa L E E
  p : wa.cell? ⟨L, 2, none⟩ = some v
  b : wa.cell? ⟨B, 1, none⟩ = some x
  lt : L < wa.heap.size

theorem HAB.of {wz : World} {o : Obj} {L B : Nat} {E : Nat → Ent} {c0 c1 v x : Value} (h : LS (wz.alloc o).drew L E c0 c1) (hs : Step wz (wz.alloc o).drew L E E) (hp : wz.cell? ⟨L, 2, none⟩ = some v) (hb : wz.cell? ⟨B, 1, none⟩ = some x) (_hB : B < wz.heap.size) : HAB wz (wz.alloc o).drew L B E c0 c1 v x :=
  ⟨h, hs, old1 hp o, old1 hb o, h.lt⟩

theorem news1 (w : World) (x : Value) : ∀ j u, [x][j]? = some u → (w.alloc (.cells #[x] 3)).drew.cell? ((⟨w.heap.size, 0, none⟩ : Addr).add j) = some u := by
  intro j u hu
  cases j with
  | zero =>
    simp at hu
    subst hu
    have hb := heap_alloc_new w (.cells #[x] 3)
    show (w.alloc (.cells #[x] 3)).cell? _ = _
    simp only [World.cell?, Addr.add, if_true, hb]
    rfl
  | succ j => simp at hu
theorem one1 (x : Int) : ∀ u ∈ [Value.int .i64 x], u.oneCell' = true := by
  intro u hu
  simp at hu
  subst hu
  rfl

theorem box2 (wr : World) (x y : Int) : ∃ wx, wx = wr.alloc (Obj.cells #[.int .i64 x, .int .i64 y] 70) ∧ wr.Since wr.heap.size wx ∧ wr.heap.size < wx.heap.size ∧
    wx.cell? ⟨wr.heap.size, 0, none⟩ = some (.int .i64 x) ∧ wx.cell? ⟨wr.heap.size, 1, none⟩ = some (.int .i64 y) ∧ wx.frozen? ⟨wr.heap.size, 0, none⟩ = false ∧ wx.frozen? ⟨wr.heap.size, 1, none⟩ = false := by
  have h0 := heap_alloc_new wr (Obj.cells #[.int .i64 x, .int .i64 y] 70)
  refine ⟨_, rfl, (World.Since.refl _ _).alloc (Nat.le_refl _) _, by simp, ?_, ?_, ?_, ?_⟩
  all_goals first | (unfold World.cell?; rw [h0]; rfl) | (unfold World.frozen?; rw [h0]; rfl)

set_option maxRecDepth 100000 in
set_option maxHeartbeats 3200000 in
theorem by1 (R : Ending → World → Prop) (w : World) (L M Bx nm : Nat) (I : Ins) (E : Nat → Ent) (c : Int) (G : ByteArray → Option (Int × Int)) (v0 : Value) (F : I.Fit) (hin : I.In w M) (hst : St w L M nm E c G) (he : E 2 = wqE I 0 v0) (hnm : nm ≤ 1048576) (hold : ∀ s a b, G s = some (a, b) → a < c) (hc : 0 ≤ c ∧ c ≤ 1000)
    (hnext : ∀ w', S1 w L M nm E c G I I.nw w' → FromB (byC 5) R L Bx I (I.q : Nat) w') : FromB (byC 4) R L Bx I 0 w := by
  have HN := hid hnext
  have HO := hid hold
  have HI := hid hin
  have HF := hid F
  have HS := hid hst
  have hnw := F.nw
  have hst0 : S1 w L M nm E c G I 0 w := ⟨E, nm, v0, by rw [show dst I.N 0 = [] from rfl, over_nil]; exact hst, Keep.refl _ _ _ _, by omega, he, fun _ _ => rfl⟩
  have HS0 := hid hst0
  clear hnext hold hin F hst hst0 he
  intro u1 u4 u6 u7 u8 u10 u11 u12 u13 u14 u15 u16 u17 u18 u19 u20 u21 u22 u23 u24 u25 u26 u27 u28 u29 u30 u31 u32 u33 u34 u35 u36 u37 u38 u39 u40 u41 u42 u43 u44 u45 u46 u47 u48 u49 u50 u51 u52 u53 u54 u55 u56 u57 u58 u59 u60 u61 u62 u63 u64 u65 u66 u67 u68 u69 u70 u71 u72 u73 u74 u75 u76 u77 u78 u79 u80 u81 u82 u83 u84 u85 u86 u87 u88 u89 u90 u91 u92 u93 u94 u95 u96 u97 u98 u99 u100 u101 u102 u103 u104 u105 u106 u107 u108 u109 u110 u111 u112 u113 u114 u115 u116 u117 u118 u119 u120 u121 u122 u123 u124 u125 u126 u127 u128 u129 u130 u131 u132 u133 u134 u135 u136 u137 u138 u139 u140 u141 u142 u143 u144 u145 u146 u147 u148 u149 u150 u151 u152 u153 u154 u155 u156 u157 u158 u159 u160 u161 u162 u163 u164 u165 u166 u167 u168 u169 u170 u171 u172 u173 u174 u175 u176 u177 u178 u179 u180 u181 u182 u183 u184 u185 u186 u187 u188 u189 u190 u191 u192 u193 u194 u195 u196 u197 u198 u199 u200 u201 u202 u203 u204 u205 u206 u207 u208 u209 u210 u211 u212 u213 u214 u215 u216 u217 u218 u219 u220 u221 u222 u223 u224 u225 u226 u227 u228 u229 u230 u231 u232 u233 u234 u235 u236 u237 u238 u239 u240 u241 u242 u243 u244 u245 u246 u247 u248 u249 u250 u251 u252 u253 u254 u255 u256 u257 u258 u259 u260 u261 u262 u263 u264 u265 u266 u267 u268 u269 u270 u271 u272 u273 u274 u275 u276 u277 u278 u279 u280 u281 u282 u283 u284 u285 u286 u287 u288 u289 u290 u291 u292 u293 u294 u295 u296 u297
  conv => arg 2; whnf
  go_upto_block 0 with fail
  go_cut [9] from 10 (fun s9 wx => s9 = .int .i64 ((I.q : Nat) : Int) ∧ Hid (S1 w L M nm E c G I I.nw wx))
  case first =>
    go_wp2_with fail
    go_loopg [9, 49] I.nw (fun g s9 s49 wr => ∃ j : Nat, j ≤ I.nw ∧ g = I.nw - j ∧ s49 = .int .i64 j ∧ s9 = .int .i64 ((dst I.N j).length : Int) ∧ Hid (S1 w L M nm E c G I j wr))
    case atStart => exact ⟨0, Nat.zero_le _, rfl, rfl, rfl, HS0⟩
    case round =>
      obtain ⟨j, hj, rfl, rfl, rfl, hS⟩ := hrel
      clear HS0
      have hdl := dst_len I.N j
      by_cases hlt : j < I.nw
      · obtain ⟨E', nm', v, hSt, hK, hnm', hE2, hEo⟩ := hS.out
        have hM := hK.below HS.out
        obtain ⟨b, off, e, hb, hcl⟩ := HI.out.hl (by omega)
        rw [e]
        have HAL := hid e
        clear e
        have g0 : wr.cell? ⟨b, off + j, none⟩ = some (.string (I.N j)) := (hM.cell (a := ⟨b, off + j, none⟩) hb).trans (hcl j hlt)
        have hzj : (j : Int) < (I.nw : Int) := by omega
        have g1 : wr.cell? ⟨L, 1, none⟩ = some (.map (some M)) := hSt.ls.cell (i := 1) (by omega)
        have hlk := hSt.map.lookup (HF.out.okN j hlt)
        rw [lookV_eq] at hlk
        generalize hod : over (dst I.N j) c G (I.N j) = od at hlk
        have HOD := hid hod
        have HST := hid hSt
        have HKK := hid hK
        have HE := hid (And.intro hE2 hEo)
        clear hcl hod hSt hK hE2 hEo hM
        have q0 : wr.cell? ⟨L, 0, none⟩ = some (.int .i64 c) := HST.out.ls.cell (i := 0) (by omega)
        have hlt0 := HST.out.ls.lt
        go_upto_region 8 with fail
        obtain ⟨wx, hwx, hsx, hxl, b0, b1, f0, f1⟩ := box2 wr (la od) (lb od)
        rw [← hwx]
        obtain ⟨hStx, hKx⟩ := HST.out.since hsx
        have q0' : wx.cell? ⟨L, 0, none⟩ = some (.int .i64 c) := hStx.ls.cell (i := 0) (by omega)
        have HSX := hid hStx
        have HKX := hid (HKK.out.trans hKx)
        clear hwx g0 g1 hlk q0 hStx hKx
        go_cut [13, 72] from 53 to 71 (fun s13 s72 wy => s72 = .bool (isNew I.N j) ∧ wx.Since wx.heap.size wy)
        case first =>
          by_cases hm : I.N j ∈ dst I.N j
          · have e1 : od = some (c, (plc (dst I.N j) (I.N j) : Int)) := by rw [← HOD.out, over_mem hm]
            subst e1
            have hd := hid (isNew_old hm)
            have ecc : (c != c) = false := by simp
            clear hm
            simp only [la, lb, Option.isSome] at b0 b1 ⊢
            go_quiet (fail)
            go_wp2
            go_meet
            exact ⟨by rw [hd.out], by first | exact World.Since.refl _ _ | exact (World.Since.refl _ _).drew | exact Since.drewN (World.Since.refl _ _) _⟩
          · have e1 : od = G (I.N j) := by rw [← HOD.out, over_not hm]
            have hd := hid (isNew_new hm)
            cases od with
            | none =>
              clear hm e1
              simp only [la, lb, Option.isSome] at b0 b1 ⊢
              go_quiet (fail)
              go_wp2
              go_meet
              exact ⟨by rw [hd.out], by first | exact World.Since.refl _ _ | exact (World.Since.refl _ _).drew | exact Since.drewN (World.Since.refl _ _) _⟩
            | some p =>
              have hp := HO.out (I.N j) p.1 p.2 e1.symm
              have epc : (p.1 != c) = true := by simp; omega
              clear hm e1
              simp only [la, lb, Option.isSome] at b0 b1 ⊢
              go_quiet (fail)
              go_wp2
              go_meet
              exact ⟨by rw [hd.out], by first | exact World.Since.refl _ _ | exact (World.Since.refl _ _).drew | exact Since.drewN (World.Since.refl _ _) _⟩
        case rest =>
        rename World => wy
        obtain ⟨rfl, hsy⟩ := hcut
        obtain ⟨hSty, hKy⟩ := HSX.out.since hsy
        have y0 : wy.cell? ⟨wr.heap.size, 0, none⟩ = some (.int .i64 (la od)) := (hsy.cell (a := ⟨wr.heap.size, 0, none⟩) hxl).trans b0
        have y1 : wy.cell? ⟨wr.heap.size, 1, none⟩ = some (.int .i64 (lb od)) := (hsy.cell (a := ⟨wr.heap.size, 1, none⟩) hxl).trans b1
        have z0 : wy.frozen? ⟨wr.heap.size, 0, none⟩ = false := (hsy.frozen (a := ⟨wr.heap.size, 0, none⟩) hxl).trans f0
        have z1 : wy.frozen? ⟨wr.heap.size, 1, none⟩ = false := (hsy.frozen (a := ⟨wr.heap.size, 1, none⟩) hxl).trans f1
        have hyl := Nat.lt_of_lt_of_le hxl hsy.size
        have HSY := hid hSty
        have HKY := hid (HKX.out.trans hKy)
        clear hSty hKy q0' b0 b1 f0 f1 hsy hsx hxl HSX HKX
        rename_i hKc
        refine hKc _ _ ?_
        go_cut [9, 72] from 73 to 86 (fun s9 s72 wz => s9 = .int .i64 ((dst I.N (j + 1)).length : Int) ∧ Hid (S1' w L M nm E c G I j wr.heap.size wz) ∧ wr.heap.size < wz.heap.size)
        case first =>
          cases hnw' : isNew I.N j
          · have hm := isNew_false hnw'
            have e1 : od = some (c, (plc (dst I.N j) (I.N j) : Int)) := by rw [← HOD.out, over_mem hm]
            have hd := hid (dst_old hm)
            have hS' : Hid (S1' w L M nm E c G I j wr.heap.size wy) := ⟨by rw [y1, e1, kw_plc hm]; rfl, E', nm', v, by rw [hd.out]; exact HSY.out, HKY.out, by omega, fun i h1 h2 e => Nat.lt_irrefl _ (HST.out.ls.blk h1 h2 e).2, HE.out⟩
            clear hm e1 hnw' y0 y1
            go_wp2
            go_meet
            exact ⟨by rw [hd.out], hS', hyl⟩
          · have hm := isNew_true hnw'
            have hd := hid (dst_new hm)
            have hkn := hid (kw_new hm)
            have hov := hid (over_add (c := c) (g := G) hm)
            have hBb : wr.heap.size ≠ L ∧ wr.heap.size ≠ M ∧ ∀ i, 2 ≤ i → i < 11 → (E' i).v.ownBlock ≠ some wr.heap.size :=
              ⟨Nat.ne_of_gt HST.out.ls.lt, Nat.ne_of_gt HST.out.map.lt, fun i h1 h2 e => Nat.lt_irrefl _ (HST.out.ls.blk h1 h2 e).2⟩
            have hw0 := HKK.out.size
            obtain ⟨hS1, hK1⟩ := HSY.out.box hBb hw0 HKY.out 0 (.int .i64 c)
            obtain ⟨hS2, hK2⟩ := hS1.box hBb hw0 hK1 1 (.int .i64 ((dst I.N j).length : Int))
            have a0 : wy.cell? ⟨L, 0, none⟩ = some (.int .i64 c) := HSY.out.ls.cell (i := 0) (by omega)
            have dL : L ≠ wr.heap.size := fun e => hBb.1 e.symm
            clear hm hnw'
            go_upto_region 10 with fail
            generalize hW : (wy.setCell ⟨wr.heap.size, 0, none⟩ (.int .i64 c)).setCell ⟨wr.heap.size, 1, none⟩ (.int .i64 ((dst I.N j).length : Int)) = W at hS2 hK2 ⊢
            have k1 : W.cell? ⟨L, 1, none⟩ = some (.map (some M)) := hS2.ls.cell (i := 1) (by omega)
            have k2 : W.cell? ⟨wr.heap.size, 0, none⟩ = some (.int .i64 c) := by
              rw [← hW, World.cell?_setCell_other _ _ _ _ (by intro e2; injection e2 with _ e3; omega), World.cell?_setCell_same _ _ _ y0]
            have k3 : W.cell? ⟨wr.heap.size, 1, none⟩ = some (.int .i64 ((dst I.N j).length : Int)) := by
              rw [← hW, World.cell?_setCell_same _ _ _ ((World.cell?_setCell_other _ _ _ _ (by intro e2; injection e2 with _ e3; omega)).trans y1)]
            have hWl : W.heap.size = wy.heap.size := by rw [← hW]; simp
            obtain ⟨w', hr, hm', hg⟩ := (MapQ.block (w' := W.drew) hS2.map rfl).update (HF.out.okN j hlt) (by unfold maxLen; omega) c ((dst I.N j).length : Int)
            have dM : some L ≠ some M := by have := HSY.out.ml; simp; omega
            have dB : some wr.heap.size ≠ some M := by simpa using hBb.2.1
            have m1 : w'.cell? ⟨L, 1, none⟩ = some (.map (some M)) := hg.cell k1 dM
            have m2 : w'.cell? ⟨wr.heap.size, 0, none⟩ = some (.int .i64 c) := hg.cell k2 dB
            have m3 : w'.cell? ⟨wr.heap.size, 1, none⟩ = some (.int .i64 ((dst I.N j).length : Int)) := hg.cell k3 dB
            obtain ⟨hS3, hK3⟩ := (hS2.since ((World.Since.refl _ _).drew)).1.mapped hg hm'
            have hS' : Hid (S1' w L M nm E c G I j wr.heap.size w') := ⟨by rw [m3, hkn.out], E', nm' + 1, v, by
              rw [hd.out, ← hov.out]; exact hS3, (hK2.trans (hS2.since ((World.Since.refl _ _).drew)).2).trans hK3, by omega, hBb.2.2, HE.out⟩
            have hwl : wr.heap.size < w'.heap.size := Nat.lt_of_lt_of_le hyl (by rw [← hWl]; exact hg.size)
            clear hS3 hK3 hm' hg hW hS1 hK1 hS2 hK2 a0 y0 y1 z0 z1 hov hkn
            go_region_held3 (fun w' => w'.cell? ⟨L, 1, none⟩ = some (.map (some M)) ∧ w'.cell? ⟨wr.heap.size, 0, none⟩ = some (.int .i64 c) ∧ w'.cell? ⟨wr.heap.size, 1, none⟩ = some (.int .i64 ((dst I.N j).length : Int))) (first | (simp only [World.cell?_drew]; exact ⟨k1, k2, k3⟩) | exact ⟨m1, m2, m3⟩) (fail)
            clear k1 k2 k3 m1 m2 m3 hr
            go_wp2
            go_meet
            exact ⟨by rw [hd.out, List.length_append]; go_num, hS', hwl⟩
        case rest =>
        obtain ⟨rfl, hS', hzl⟩ := hcut
        clear HSY HKY hyl y0 y1 z0 z1 HST HKK HE
        rename World => wz
        obtain ⟨B1, E', nm', v, hSt, hK, hnm', hBo, hE2, hEo⟩ := hS'.out
        have hown := hSt.ls.own 2 (by omega) (by omega)
        rw [hE2] at hown
        simp only [wqE] at hown
        have p2 : wz.cell? ⟨L, 2, none⟩ = some v := by have := hSt.ls.cellE (i := 2) (by omega) (by omega); rw [hE2] at this; exact this
        obtain ⟨i0, hi, hz0, hz1, hz2⟩ := info_parts Try.info3
        have hL := hSt.ls.lt
        obtain ⟨av, cv, rfl⟩ := ownsRow_shape2 hown
        obtain ⟨hLa, hsa⟩ := hSt.ls.alloc (.cells #[.int .i64 (kw I.N j : Nat)] 3)
        obtain ⟨hLb, hsb⟩ := hLa.drew
        have hsz : (wz.alloc (.cells #[.int .i64 (kw I.N j : Nat)] 3)).drew.heap.size = wz.heap.size + 1 := by simp
        have hnews := hid (news1 wz (.int .i64 (kw I.N j : Nat)))
        have hBo2 := hBo 2 (by omega) (by omega)
        rw [hE2] at hBo2
        have HST := hid hSt
        have HKK := hid hK
        have HEo := hid hEo
        have HE2 := hid hE2
        have hab := HAB.of hLb (hsa.trans hsb) p2 B1 (World.block_lt_of_cell? _ _ B1)
        have HOW := hid (show (wz.alloc (.cells #[.int .i64 (kw I.N j : Nat)] 3)).drew.ownsRow (L + 1) 3 1 (.slice av j cv) j (rowL j (fun i => .int .i64 (kw I.N i : Nat))) from hown.alloc _)
        have Bl : wr.heap.size < wz.heap.size := World.block_lt_of_cell? _ _ B1
        clear hSt hK hEo hE2 hown hS' hS hLa hsa hLb hsb hBo
        go_wp2
        refine wp_region_F (fun w' => w'.cell? ⟨L, 2, none⟩ = some (.slice av j cv) ∧ w'.cell? ⟨wr.heap.size, 1, none⟩ = some (.int .i64 (kw I.N j : Nat))) 11 (by kernel_rfl) (by simp only [World.cell?_drew]; exact ⟨p2, B1⟩) (fun hHeld => ?_)
        refine OrdF.take 11 0 (v := ?_) rfl rfl (by kernel_rfl) (by kernel_rfl) (by kernel_rfl) (by kernel_rfl) rfl (fun _ _ _ h => h) (Or.inl ⟨by rfl, ?_⟩) hHeld ?_
        rotate_left
        · intro w hSw; (try dsimp only at hSw); go_simp <;> with_reducible rfl
        simp only [Act.put, List.setIfInBounds_toArray, List.set_cons_zero, List.set_cons_succ]
        refine OrdF.take 11 1 (v := ?_) rfl rfl (by kernel_rfl) (by kernel_rfl) (by kernel_rfl) (by kernel_rfl) rfl (fun _ _ _ h => h) (Or.inl ⟨by rfl, ?_⟩) hHeld ?_
        rotate_left
        · intro w hSw; (try dsimp only at hSw); go_simp <;> with_reducible rfl
        simp only [Act.put, List.setIfInBounds_toArray, List.set_cons_zero, List.set_cons_succ]
        refine OrdF.take 11 2 (v := ?_) rfl rfl (by kernel_rfl) (by kernel_rfl) (by kernel_rfl) (by kernel_rfl) rfl (fun _ _ _ h => h) (Or.inl ⟨by rfl, ?_⟩) hHeld ?_
        rotate_left
        · intro w hSw; (try dsimp only at hSw); go_simp <;> with_reducible rfl
        simp only [Act.put, List.setIfInBounds_toArray, List.set_cons_zero, List.set_cons_succ]
        refine OrdF.take 11 3 (v := ?_) rfl rfl (by kernel_rfl) (by kernel_rfl) (by kernel_rfl) (by kernel_rfl) rfl (fun _ _ _ h => h) (Or.inl ⟨by rfl, ?_⟩) hHeld ?_
        rotate_left
        · intro w hSw; (try dsimp only at hSw); go_simp <;> with_reducible rfl
        simp only [Act.put, List.setIfInBounds_toArray, List.set_cons_zero, List.set_cons_succ]
        refine OrdF.take 11 4 (v := ?_) rfl rfl (by kernel_rfl) (by kernel_rfl) (by kernel_rfl) (by kernel_rfl) rfl (fun _ _ _ h => h) (Or.inl ⟨by rfl, ?_⟩) hHeld ?_
        rotate_left
        · intro w hSw; (try dsimp only at hSw); go_simp <;> with_reducible rfl
        simp only [Act.put, List.setIfInBounds_toArray, List.set_cons_zero, List.set_cons_succ]
        refine OrdF.take 11 5 (v := ?_) rfl rfl (by kernel_rfl) (by kernel_rfl) (by kernel_rfl) (by kernel_rfl) rfl (fun _ _ _ h => h) (Or.inl ⟨by rfl, ?_⟩) hHeld ?_
        rotate_left
        · intro w hSw; (try dsimp only at hSw); go_simp <;> with_reducible rfl
        simp only [Act.put, List.setIfInBounds_toArray, List.set_cons_zero, List.set_cons_succ]
        refine OrdF.take 11 6 (v := ?_) rfl rfl (by kernel_rfl) (by kernel_rfl) (by kernel_rfl) (by kernel_rfl) rfl (fun _ _ _ h => h) (Or.inl ⟨by rfl, ?_⟩) hHeld ?_
        rotate_left
        · intro w hSw; (try dsimp only at hSw); go_simp <;> with_reducible rfl
        simp only [Act.put, List.setIfInBounds_toArray, List.set_cons_zero, List.set_cons_succ]
        refine OrdF.one 11 7 rfl (by kernel_rfl) (by rfl) (fun K hK => ?_)
        go_simp
        generalize (wz.alloc (.cells #[.int .i64 (kw I.N j : Nat)] 3)).drew = wa at hsz hnews hab HOW ⊢
        have HA := hid hab
        refine hK _ _ (fun _ => ⟨hab.p, hab.b⟩) ?_
        clear hK K hab
        refine OrdF.one 11 8 rfl (by kernel_rfl) (by rfl) (fun K hK => ?_)
        refine wp_append_lies wa (.tmp 91) (.tmp 94) 22 rfl (L + 1) 3 i0 (.int .i64 0) 1 8 Try.underlying22 hi hz0 hz1 hz2 rfl (by decide) (.slice av j cv) j _ rfl HOW.out ⟨wz.heap.size, 0, none⟩ 1 1 [.int .i64 (kw I.N j : Nat)] rfl rfl hnews.out (one1 _) (by omega) (by unfold maxLen; omega) (by omega) (by omega) (wz.heap.size + 1) hsz ?_
        intro g cap w1 hown1 hg1 hat hlt1
        have dL : some L ≠ (Value.slice av j cv).ownBlock := fun e => by have := (HOW.out.lt L e.symm).1; omega
        have r1 : w1.cell? ⟨L, 2, none⟩ = some (.slice av j cv) := hg1.cell HA.out.p dL
        have r2 : w1.cell? ⟨wr.heap.size, 1, none⟩ = some (.int .i64 (kw I.N j : Nat)) := hg1.cell HA.out.b (fun e => hBo2 e.symm)
        have r3 : w1.frozen? ⟨L, 2, none⟩ = false := by rw [World.frozen?_of_block (w := wa) (hg1.block L HA.out.lt dL)]; exact HA.out.ls.frozen 2
        obtain ⟨hLf, hsf⟩ := HA.out.ls.field (i := 2) (by omega) (by omega) (w1 := w1) (by rw [HE2.out]; exact hg1) hown1 (fun b hb => by
          simp only [Value.ownBlock, Option.some.injEq] at hb
          subst hb
          rcases hat with e | e
          · left; rw [HE2.out]; exact e
          · right; omega)
        have hrow : rowL j (fun i => Value.int .i64 (kw I.N i : Nat)) ++ [.int .i64 (kw I.N j : Nat)] = rowL (j + 1) (fun i => .int .i64 (kw I.N i : Nat)) := by simp [rowL, List.range_succ]
        rw [hrow] at hLf hsf
        have hSn : Hid (S1 w L M nm E c G I (j + 1) (w1.setCell ⟨L, 2, none⟩ (.slice (some ⟨g, 0, none⟩) (j + 1) cap))) := ⟨_, nm', .slice (some ⟨g, 0, none⟩) (j + 1) cap, HST.out.step hLf (HA.out.st.trans hsf), HKK.out.trans ((HA.out.st.trans hsf).keep M), hnm', upd_same _ _ _, fun i hi => by rw [upd_other _ _ hi]; exact HEo.out i hi⟩
        simp only [Act.put, List.setIfInBounds_toArray, List.set_cons_zero, List.set_cons_succ]
        refine hK _ _ (fun _ => ⟨r1, r2⟩) ?_
        clear hK K hLf hsf hrow hown1 hg1 hat HOW hnews HA HST HKK
        refine OrdF.one 11 9 rfl (by kernel_rfl) (by rfl) (fun K hK => ?_)
        go_simp
        refine hK _ _ (fun _ => ⟨r1, r2⟩) ?_
        clear hK K
        refine OrdF.one 11 10 rfl (by kernel_rfl) (by rfl) (fun K hK => ?_)
        go_simp
        refine hK _ _ (fun _ => ⟨r1, r2⟩) ?_
        clear hK K
        refine OrdF.one 11 11 rfl (by kernel_rfl) (by rfl) (fun K hK => ?_)
        go_simp
        refine hK _ _ (fun h => absurd rfl h) (OrdF.done (by kernel_rfl) (NoPanic.normal ?_) _)
        clear hK K r1 r2 r3
        go_wp2
        rw [← HAL.out]
        go_roundg (I.nw - (j + 1))
        case measure => go_light; omega
        case rel => go_light; exact ⟨j + 1, by omega, rfl, by go_num, rfl, hSn⟩
      · obtain rfl : j = I.nw := by omega
        go_wp2
        go_meet
        exact ⟨rfl, hS⟩
  case rest =>
  obtain ⟨rfl, hS⟩ := hcut
  rename_i hK
  refine hK _ _ ?_
  have hT := HN.out _ hS.out u1 u4 u6 u7 u8 u10 u11 u12 u13 u14 u15 u16 u17 u18 u19 u20 u21 u22 u23 u24 u25 u26 u27 u28 u29 u30 u31 u32 u33 u34 u35 u36 u37 u38 u39 u40 u41 u42 u43 u44 u45 u46 u47 u48 u49 u50 u51 u52 u53 u54 u55 u56 u57 u58 u59 u60 u61 u62 u63 u64 u65 u66 u67 u68 u69 u70 u71 u72 u73 u74 u75 u76 u77 u78 u79 u80 u81 u82 u83 u84 u85 u86 u87 u88 u89 u90 u91 u92 u93 u94 u95 u96 u97 u98 u99 u100 u101 u102 u103 u104 u105 u106 u107 u108 u109 u110 u111 u112 u113 u114 u115 u116 u117 u118 u119 u120 u121 u122 u123 u124 u125 u126 u127 u128 u129 u130 u131 u132 u133 u134 u135 u136 u137 u138 u139 u140 u141 u142 u143 u144 u145 u146 u147 u148 u149 u150 u151 u152 u153 u154 u155 u156 u157 u158 u159 u160 u161 u162 u163 u164 u165 u166 u167 u168 u169 u170 u171 u172 u173 u174 u175 u176 u177 u178 u179 u180 u181 u182 u183 u184 u185 u186 u187 u188 u189 u190 u191 u192 u193 u194 u195 u196 u197 u198 u199 u200 u201 u202 u203 u204 u205 u206 u207 u208 u209 u210 u211 u212 u213 u214 u215 u216 u217 u218 u219 u220 u221 u222 u223 u224 u225 u226 u227 u228 u229 u230 u231 u232 u233 u234 u235 u236 u237 u238 u239 u240 u241 u242 u243 u244 u245 u246 u247 u248 u249 u250 u251 u252 u253 u254 u255 u256 u257 u258 u259 u260 u261 u262 u263 u264 u265 u266 u267 u268 u269 u270 u271 u272 u273 u274 u275 u276 u277 u278 u279 u280 u281 u282 u283 u284 u285 u286 u287 u288 u289 u290 u291 u292 u293 u294 u295 u296 u297
  conv at hT => arg 2; whnf
  exact hT
end Go.Proofs.Qxb6600184a
