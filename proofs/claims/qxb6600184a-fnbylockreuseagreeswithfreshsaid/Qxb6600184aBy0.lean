/-
  byLock, her first statements.
-/
import Derived.Test.Qxb6600184aBy3
namespace Go.Proofs.Qxb6600184a
open Go.RowKit
set_option linter.unusedSimpArgs false
set_option linter.unusedVariables false

/-- The queue handed in. -/
def qV (I : Ins) : Value := .agg #[.slice I.aa I.na I.ca, .slice none 0 0, .slice I.aw I.nw I.cw, .slice none 0 0, .int .u8 0]

set_option maxRecDepth 100000 in
set_option maxHeartbeats 3200000 in
theorem by0 (R : Ending → World → Prop) (w : World) (L M nm : Nat) (I : Ins) (E : Nat → Ent) (c : Int) (G : ByteArray → Option (Int × Int)) (hst : St w L M nm E c G) (he : (E 2).e = 3 ∧ (E 2).sz = 1) (hc : 0 ≤ c ∧ c ≤ 900)
    (hnext : ∀ w' v0, St w' L M nm (upd E 2 ⟨3, 1, v0, 0, []⟩) (c + 1) G → Keep w w' L M E (upd E 2 ⟨3, 1, v0, 0, []⟩) → BoxOk w' L M (upd E 2 ⟨3, 1, v0, 0, []⟩) w.heap.size I → FromB (byC 4) R L w.heap.size I 0 w') :
    Calls Try.prog 26 #[.pointer (some ⟨L, 0, none⟩), qV I, .slice I.al I.nw I.cl, .slice I.ax I.na I.cx] w R := by
  have HN := hid hnext
  have HS := hid hst
  obtain ⟨hc0, hc1⟩ := hc
  have hL := hst.ls.lt
  have o2 := hst.ls.own 2 (by omega) (by omega)
  rw [he.1, he.2] at o2
  obtain ⟨a2, c2, hv2⟩ := ownsRow_shape2 o2
  have p2 := hst.ls.cellE (i := 2) (by omega) (by omega)
  have p0 : w.cell? ⟨L, 0, none⟩ = some (.int .i64 c) := hst.ls.cell (i := 0) (by omega)
  have f0 := hst.ls.frozen 0
  have f2 := hst.ls.frozen 2
  rw [hv2] at o2 p2
  have oz := ownsRow_zero o2
  have sl0 := fun m => slice_head oz m 0 (Nat.zero_le _)
  simp only [Int.natCast_zero] at sl0
  -- the box, the count, the field
  obtain ⟨w1, hw1, hs1, hl1, b0, b2⟩ : ∃ w1, w1 = w.alloc (.cells #[.slice I.aa I.na I.ca, .slice none 0 0, .slice I.aw I.nw I.cw, .slice none 0 0, .int .u8 0] 57) ∧ w.Since w.heap.size w1 ∧ w.heap.size < w1.heap.size ∧ w1.cell? ⟨w.heap.size, 0, none⟩ = some (.slice I.aa I.na I.ca) ∧ w1.cell? ⟨w.heap.size, 2, none⟩ = some (.slice I.aw I.nw I.cw) := by
    have h0 := heap_alloc_new w (.cells #[.slice I.aa I.na I.ca, .slice none 0 0, .slice I.aw I.nw I.cw, .slice none 0 0, .int .u8 0] 57)
    refine ⟨_, rfl, (World.Since.refl _ _).alloc (Nat.le_refl _) _, by simp, ?_, ?_⟩
    all_goals (unfold World.cell?; rw [h0]; rfl)
  obtain ⟨hSt1, hK1⟩ := hst.since hs1
  obtain ⟨hl2, hs2⟩ := hSt1.ls.sites (.int .i64 (c + 1))
  have hSt2 := hSt1.step hl2 hs2
  have oz2 := (hst.ls.own 2 (by omega) (by omega))
  obtain ⟨hl3, hs3⟩ := hl2.field (i := 2) (by omega) (by omega) (w1 := w1.setCell ⟨L, 0, none⟩ (.int .i64 (c + 1))) ⟨rfl, rfl, rfl, Nat.le_refl _, fun _ _ _ => rfl⟩ (v' := .slice a2 0 c2) (n' := 0) (xs' := []) (e' := 3) (sz' := 1) (by
      have := hl2.own 2 (by omega) (by omega)
      rw [he.1, he.2, hv2] at this
      exact ownsRow_zero this) (fun b hb => by left; rw [hv2, ownBlock_of a2 _ _ 0 c2]; exact hb)
  have hSt3 := hSt2.step hl3 hs3
  have hK3 := (hK1.trans (hs2.keep M)).trans (hs3.keep M)
  have hbx1 : BoxOk w1 L M E w.heap.size I := ⟨hl1, Nat.ne_of_gt hL, Nat.ne_of_gt hst.map.lt, fun i h1 h2 e => Nat.lt_irrefl _ (hst.ls.blk h1 h2 e).2, b0, b2⟩
  have hbx3 := hbx1.keep ((hs2.keep M).trans (hs3.keep M))
  have HF := hid (HN.out _ _ hSt3 hK3 hbx3)
  have g0 : w1.cell? ⟨L, 0, none⟩ = some (.int .i64 c) := (hs1.cell (a := ⟨L, 0, none⟩) hL).trans p0
  have g2 : w1.cell? ⟨L, 2, none⟩ = some (.slice a2 (E 2).n c2) := (hs1.cell (a := ⟨L, 2, none⟩) hL).trans p2
  have k0 : w1.frozen? ⟨L, 0, none⟩ = false := (hs1.frozen (a := ⟨L, 0, none⟩) hL).trans f0
  have k2 : w1.frozen? ⟨L, 2, none⟩ = false := (hs1.frozen (a := ⟨L, 2, none⟩) hL).trans f2
  obtain ⟨m2, hm2⟩ : ∃ m2, m2 = (E 2).n := ⟨_, rfl⟩
  rw [← hm2] at g2
  have HW := hid hw1
  clear hnext hst he o2 hv2 oz hSt1 hK1 hl2 hs2 hSt2 oz2 hl3 hs3 hSt3 hK3 hbx1 hbx3 p0 p2 f0 f2 hw1 hm2 b0 b2
  unfold qV
  go_enter Try.func26, Try.ntmps26
  go_upto_region 1 with fail
  rw [← HW.out]
  clear HW
  go_upto_region 3 with fail
  go_cut [] from 32 (fun wx => (w1.setCell ⟨L, 0, none⟩ (.int .i64 (c + 1))).setCell ⟨L, 2, none⟩ (.slice a2 0 c2) = wx)
  case first =>
    go_wp2
    go_meet
    rfl
  case rest =>
  subst hcut
  rename_i hK
  refine hK _ _ ?_
  have hT := HF.out (.agg #[.slice I.aa I.na I.ca, .slice none 0 0, .slice I.aw I.nw I.cw, .slice none 0 0, .int .u8 0]) undef undef undef (.slice none 0 0) undef undef undef undef undef undef undef undef undef undef undef undef undef undef undef undef undef undef undef undef undef undef u32 u33 u34 u35 u36 u37 u38 u39 u40 u41 u42 u43 u44 u45 u46 u47 u48 u49 u50 u51 u52 u53 u54 u55 u56 u57 u58 u59 u60 u61 u62 u63 u64 u65 u66 u67 u68 u69 u70 u71 u72 u73 u74 u75 u76 u77 u78 u79 u80 u81 u82 u83 u84 u85 u86 u87 u88 u89 u90 u91 u92 u93 u94 u95 u96 u97 u98 u99 u100 u101 u102 u103 u104 u105 u106 u107 u108 u109 u110 u111 u112 u113 u114 u115 u116 u117 u118 u119 u120 u121 u122 u123 u124 u125 u126 u127 u128 u129 u130 u131 u132 u133 u134 u135 u136 u137 u138 u139 u140 u141 u142 u143 u144 u145 u146 u147 u148 u149 u150 u151 u152 u153 u154 u155 u156 u157 u158 u159 u160 u161 u162 u163 u164 u165 u166 u167 u168 u169 u170 u171 u172 u173 u174 u175 u176 u177 u178 u179 u180 u181 u182 u183 u184 u185 u186 u187 u188 u189 u190 u191 u192 u193 u194 u195 u196 u197 u198 u199 u200 u201 u202 u203 u204 u205 u206 u207 u208 u209 u210 u211 u212 u213 u214 u215 u216 u217 u218 u219 u220 u221 u222 u223 u224 u225 u226 u227 u228 u229 u230 u231 u232 u233 u234 u235 u236 u237 u238 u239 u240 u241 u242 u243 u244 u245 u246 u247 u248 u249 u250 u251 u252 u253 u254 u255 u256 u257 u258 u259 u260 u261 u262 u263 u264 u265 u266 u267 u268 u269 u270 u271 u272 u273 u274 u275 u276 u277 u278 u279 u280 u281 u282 u283 u284 u285 u286 u287 u288 u289 u290 u291 u292 u293 u294 u295 u296 u297
  conv at hT => arg 2; whnf
  exact hT
end Go.Proofs.Qxb6600184a
