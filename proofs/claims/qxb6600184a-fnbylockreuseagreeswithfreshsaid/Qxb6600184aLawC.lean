/-
  FnByLockReuseAgreesWithFresh: the lockSplit, its first and second split.
-/
import Derived.Test.Qxb6600184aLawB
namespace Go.Proofs.Qxb6600184a
open Go.RowKit
set_option linter.unusedVariables false

/-- What the lockSplit owns lies below B. -/
def LowE (E : Nat → Ent) (B : Nat) : Prop := ∀ i b, 2 ≤ i → i < 11 → (E i).v.ownBlock = some b → b < B

theorem Mid.first {w0 w w1 : World} {I1 I2 : Ins} (F1 : I1.Fit) (F2 : I2.Fit) (h1 : I1.In w w.heap.size) (h2 : I2.In w w.heap.size) (hs : w0.Since w0.heap.size w) (hst : St w1 (w.heap.size + 1) w.heap.size 0 E0 0 (fun _ => none)) (hs1 : w.Since w.heap.size w1) :
    ∃ L M, L = w.heap.size + 1 ∧ M = w.heap.size ∧ Mid w0 w1 I1 I2 L M 0 E0 0 (fun _ => none) :=
  ⟨_, _, rfl, rfl, F1, F2, hst, E0_types, by omega, (fun s a b e => by cases e), h1.since hs1, h2.since hs1, hs.size, hs.trans (Since.low hs1 hs.size)⟩

set_option maxRecDepth 100000 in
set_option maxHeartbeats 6400000 in
theorem lawC (w0 w : World) (I1 I2 : Ins) (F1 : I1.Fit) (F2 : I2.Fit) (h1 : I1.In w w.heap.size) (h2 : I2.In w w.heap.size) (hs : w0.Since w0.heap.size w)
    (hnext : ∀ (w' : World) (L M nm B : Nat) (E : Nat → Ent) (G : ByteArray → Option (Int × Int)) (x1 x2 x3 : Value), Mid w0 w' I1 I2 L M nm E 2 G → nm ≤ 8192 → Rs B w' x1 x2 x3 I2 → L < B → M < B → LowE E B → FromL (lC 16) w0 w' (.slice I1.aw I1.nw I1.cw) (.slice I1.aa I1.na I1.ca) (.slice I1.al I1.nw I1.cl) (.slice I1.ax I1.na I1.cx) (.slice I2.aw I2.nw I2.cw) (.slice I2.aa I2.na I2.ca) (.slice I2.al I2.nw I2.cl) (.slice I2.ax I2.na I2.cx) (.pointer (some ⟨L, 0, none⟩)) x1 x2 x3 undef undef undef undef undef undef undef undef undef) :
    FromL (lC 13) w0 w (.slice I1.aw I1.nw I1.cw) (.slice I1.aa I1.na I1.ca) (.slice I1.al I1.nw I1.cl) (.slice I1.ax I1.na I1.cx) (.slice I2.aw I2.nw I2.cw) (.slice I2.aa I2.na I2.ca) (.slice I2.al I2.nw I2.cl) (.slice I2.ax I2.na I2.cx) undef undef undef undef undef undef undef undef undef undef undef undef undef := by
  have HF := hidd (And.intro F1 F2)
  have HI := hidd (And.intro h1 h2)
  have HS := hidd hs
  have HN := hidd hnext
  clear F1 F2 h1 h2 hs hnext
  unfold FromL
  intro u8 u9 u10 u11 u12 u13 u14 u15 u16 u30 u31 u32 u33 u34 u35 u36 u37 u38 u39 u40 u41 u42 u43 u44 u45 u46 u47 u48 u49 u50 u51 u52 u53 u54 u55 u56 u57 u58 u59 u60 u61 u62 u63 u64 u65 u66 u67 u68 u69 u70 u71 u72 u73 u74 u75 u76 u77 u78 u79 u80 u81 u82 u83 u84 u85 u86 u87 u88 u89 u90 u91 u92 u93 u94 u95 u96 u97 u98 u99 u100 u101 u102 u103 u104 u105 u106 u107 u108 u109 u110 u111 u112 u113 u114 u115 u116 u117 u118 u119 u120 u121 u122 u123 u124 u125 u126 u127 u128 u129 u130 u131 u132 u133 u134 u135 u136 u137 u138 u139 u140 u141 u142 u143 u144 u145 u146 u147 u148 u149 u150 u151 u152 u153 u154 u155 u156 u157 u158 K hK
  have hC : lC 13 = lC 13 := rfl
  conv at hC => rhs; whnf
  rw [hC] at hK ⊢
  simp only [hdZ, tlZ] at hK ⊢
  clear hC
  go_wp2_with fail
  refine (new_any w).mono ?_
  rintro e w1 ⟨rfl, hst, hs1⟩
  obtain ⟨L, M, hL, hM, h0⟩ := Mid.first HF.out.1 HF.out.2 HI.out.1 HI.out.2 HS.out hst hs1
  rw [← hL]
  have H0 := hidd h0
  clear hL hM hst hs1 h0 HI HS
  go_wp2_with fail
  refine (H0.out.call ⟨by omega, by omega⟩ I1 HF.out.1 H0.out.in1).mono ?_
  rintro e w2 ⟨E2, nm2, G2, v2, rfl, hk, hK2, hq⟩
  obtain ⟨hn2, m2⟩ := hk 4096 (by omega) (by omega)
  have H2 := hidd m2
  clear H0 hk hK2 hq m2
  go_wp2_with fail
  refine (H2.out.call ⟨by omega, by omega⟩ I2 HF.out.2 H2.out.in2).mono ?_
  rintro e w3 ⟨E3, nm3, G3, v3, rfl, hk, hK3, hq⟩
  obtain ⟨hn3, m3⟩ := hk 8192 (by omega) (by omega)
  have H3 := hidd m3
  have HQ := hidd hq
  clear H2 hk hK3 hq m3
  go_wp2_with fail
  refine (flatRs w3 v3 I2 HF.out.2 HQ.out).mono ?_
  rintro e w4 ⟨⟨x1, x2, x3, rfl, hR⟩, hs4⟩
  have HX := HN.out w4 L M nm3 w3.heap.size E3 G3 x1 x2 x3 (H3.out.later hs4).1 hn3 hR H3.out.st.ls.lt H3.out.st.map.lt (fun i b j1 j2 e => (H3.out.st.ls.blk j1 j2 e).2)
  clear hR hs4 H3 HQ HF HN hn2 hn3
  go_upto_region 20 with fail
  have hT := HX
  have hC : lC 16 = lC 16 := rfl
  conv at hC => rhs; whnf
  unfold FromL at hT
  rw [hC] at hT
  simp only [hdZ, tlZ] at hT
  rename_i hK
  exact hT _ _ _ _ _ _ _ _ _ _ _ _ _ _ _ _ _ _ _ _ _ _ _ _ _ _ _ _ _ _ _ _ _ _ _ _ _ _ _ _ _ _ _ _ _ _ _ _ _ _ _ _ _ _ _ _ _ _ _ _ _ _ _ _ _ _ _ _ _ _ _ _ _ _ _ _ _ _ _ _ _ _ _ _ _ _ _ _ _ _ _ _ _ _ _ _ _ _ _ _ _ _ _ _ _ _ _ _ _ _ _ _ _ _ _ _ _ _ _ _ _ _ _ _ _ _ _ _ _ _ _ _ _ _ _ _ _ _ _ hK
end Go.Proofs.Qxb6600184a
