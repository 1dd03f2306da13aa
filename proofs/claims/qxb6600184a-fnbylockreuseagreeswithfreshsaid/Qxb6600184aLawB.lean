/-
  FnByLockReuseAgreesWithFresh: the copies.
-/
import Derived.Test.Qxb6600184aLawA
namespace Go.Proofs.Qxb6600184a
open Go.RowKit
set_option linter.unusedVariables false

set_option maxRecDepth 100000 in
set_option maxHeartbeats 6400000 in
theorem lawB (w : World) (a1 a2 a3 a4 a5 a6 a7 a8 : Option Addr) (n1 n2 n3 n4 n5 n6 n7 n8 c1 c2 c3 c4 c5 c6 c7 c8 : Nat) (f1 f2 f5 f6 : Nat → Int) (N1 N2 : Nat → ByteArray) (xl1 xl2 : Nat → Nat) (X1 X2 : Nat → Nat → ByteArray)
    (S1 : Side w a1 a2 a3 a4 n1 n2 n3 n4 c1 c2 c3 c4 f1 f2 N1 xl1 X1) (S2 : Side w a5 a6 a7 a8 n5 n6 n7 n8 c5 c6 c7 c8 f5 f6 N2 xl2 X2) (e1 : n3 = n1) (e2 : n4 = n2) (e3 : n7 = n5) (e4 : n8 = n6) (l1 : n1 ≤ 4096 ∧ n2 ≤ 4096 ∧ n3 ≤ 4096 ∧ n4 ≤ 4096 ∧ pos xl1 n4 ≤ 4096) (l2 : n5 ≤ 4096 ∧ n6 ≤ 4096 ∧ n7 ≤ 4096 ∧ n8 ≤ 4096 ∧ pos xl2 n8 ≤ 4096)
    (hnext : ∀ (w' : World) (I1 I2 : Ins), I1.Fit → I2.Fit → I1.In w' w'.heap.size → I2.In w' w'.heap.size → w.Since w.heap.size w' → FromL (lC 13) w w' (.slice I1.aw I1.nw I1.cw) (.slice I1.aa I1.na I1.ca) (.slice I1.al I1.nw I1.cl) (.slice I1.ax I1.na I1.cx) (.slice I2.aw I2.nw I2.cw) (.slice I2.aa I2.na I2.ca) (.slice I2.al I2.nw I2.cl) (.slice I2.ax I2.na I2.cx) undef undef undef undef undef undef undef undef undef undef undef undef undef) :
    FromL (lC 5) w w (.slice a1 n1 c1) (.slice a2 n2 c2) (.slice a3 n3 c3) (.slice a4 n4 c4) (.slice a5 n5 c5) (.slice a6 n6 c6) (.slice a7 n7 c7) (.slice a8 n8 c8) undef undef undef undef undef undef undef undef undef undef undef undef undef := by
  subst e1 e2 e3 e4
  obtain ⟨l11, l12, l13, l14, l15⟩ := l1
  obtain ⟨l21, l22, l23, l24, l25⟩ := l2
  have H1 := hidd S1
  have H2 := hidd S2
  have HN := hidd hnext
  clear S1 S2 hnext
  unfold FromL
  intro u8 u9 u10 u11 u12 u13 u14 u15 u16 u30 u31 u32 u33 u34 u35 u36 u37 u38 u39 u40 u41 u42 u43 u44 u45 u46 u47 u48 u49 u50 u51 u52 u53 u54 u55 u56 u57 u58 u59 u60 u61 u62 u63 u64 u65 u66 u67 u68 u69 u70 u71 u72 u73 u74 u75 u76 u77 u78 u79 u80 u81 u82 u83 u84 u85 u86 u87 u88 u89 u90 u91 u92 u93 u94 u95 u96 u97 u98 u99 u100 u101 u102 u103 u104 u105 u106 u107 u108 u109 u110 u111 u112 u113 u114 u115 u116 u117 u118 u119 u120 u121 u122 u123 u124 u125 u126 u127 u128 u129 u130 u131 u132 u133 u134 u135 u136 u137 u138 u139 u140 u141 u142 u143 u144 u145 u146 u147 u148 u149 u150 u151 u152 u153 u154 u155 u156 u157 u158 K hK
  have hC : lC 5 = lC 5 := rfl
  conv at hC => rhs; whnf
  rw [hC] at hK ⊢
  simp only [hdZ, tlZ] at hK ⊢
  clear hC
  go_wp2_with fail
  refine (copyI w a1 n3 c1 f1 l11 H1.out.z1 H1.out.i1).mono ?_
  rintro e w1 ⟨⟨b1, d1, rfl, r1⟩, t1⟩
  have R1 := hidd r1
  clear r1
  go_wp2_with fail
  refine (copyI w1 a2 n4 c2 f2 l12 H1.out.z2 (H1.out.i2.since t1 (Nat.le_refl _))).mono ?_
  rintro e w2 ⟨⟨b2, d2, rfl, r2⟩, t2'⟩
  have t2 := Since.step t1 t2'
  have R1 := hidd (R1.out.grow t2')
  have R2 := hidd r2
  clear r2 t1 t2'
  go_wp2_with fail
  refine (copyS w2 a3 n3 c3 N1 l13 H1.out.z3 (H1.out.i3.grow t2)).mono ?_
  rintro e w3 ⟨⟨b3, d3, rfl, r3⟩, t3'⟩
  have t3 := Since.step t2 t3'
  have R1 := hidd (R1.out.grow t3')
  have R2 := hidd (R2.out.grow t3')
  have R3 := hidd r3
  clear r3 t2 t3'
  go_wp2_with fail
  refine (copyX w3 a4 n4 c4 xl1 X1 l14 l15 H1.out.z4 (H1.out.i4.grow t3)).mono ?_
  rintro e w4 ⟨⟨b4, d4, rfl, r4⟩, t4'⟩
  have t4 := Since.step t3 t4'
  have J1 : Hid (Ins.In ⟨b1, b2, b3, b4, n3, n4, d1, d2, d3, d4, f1, f2, N1, xl1, X1⟩ w4 w4.heap.size) := ⟨R1.out.grow t4', R2.out.grow t4', R3.out.grow t4', r4⟩
  clear r4 t3 t4' R1 R2 R3
  go_wp2_with fail
  refine (copyI w4 a5 n7 c5 f5 l21 H2.out.z1 (H2.out.i1.since t4 (Nat.le_refl _))).mono ?_
  rintro e w5 ⟨⟨b5, d5, rfl, r1⟩, t5'⟩
  have t5 := Since.step t4 t5'
  have R1 := hidd r1
  have J1 := hidd ((J1.out.since t5').mono t5'.size)
  clear r1 t4 t5'
  go_wp2_with fail
  refine (copyI w5 a6 n8 c6 f6 l22 H2.out.z2 (H2.out.i2.since t5 (Nat.le_refl _))).mono ?_
  rintro e w6 ⟨⟨b6, d6, rfl, r2⟩, t6'⟩
  have t6 := Since.step t5 t6'
  have R1 := hidd (R1.out.grow t6')
  have R2 := hidd r2
  have J1 := hidd ((J1.out.since t6').mono t6'.size)
  clear r2 t5 t6'
  go_wp2_with fail
  refine (copyS w6 a7 n7 c7 N2 l23 H2.out.z3 (H2.out.i3.grow t6)).mono ?_
  rintro e w7 ⟨⟨b7, d7, rfl, r3⟩, t7'⟩
  have t7 := Since.step t6 t7'
  have R1 := hidd (R1.out.grow t7')
  have R2 := hidd (R2.out.grow t7')
  have R3 := hidd r3
  have J1 := hidd ((J1.out.since t7').mono t7'.size)
  clear r3 t6 t7'
  go_wp2_with fail
  refine (copyX w7 a8 n8 c8 xl2 X2 l24 l25 H2.out.z4 (H2.out.i4.grow t7)).mono ?_
  rintro e w8 ⟨⟨b8, d8, rfl, r4⟩, t8'⟩
  have t8 := Since.step t7 t8'
  have J2 : Hid (Ins.In ⟨b5, b6, b7, b8, n7, n8, d5, d6, d7, d8, f5, f6, N2, xl2, X2⟩ w8 w8.heap.size) := ⟨R1.out.grow t8', R2.out.grow t8', R3.out.grow t8', r4⟩
  have J1 := hidd ((J1.out.since t8').mono t8'.size)
  have HX := HN.out w8 ⟨b1, b2, b3, b4, n3, n4, d1, d2, d3, d4, f1, f2, N1, xl1, X1⟩ ⟨b5, b6, b7, b8, n7, n8, d5, d6, d7, d8, f5, f6, N2, xl2, X2⟩ ⟨l13, l14, l15, H1.out.k3, H1.out.k5⟩ ⟨l23, l24, l25, H2.out.k3, H2.out.k5⟩ J1.out J2.out t8
  clear r4 t7 t8' R1 R2 R3 J1 J2 H1 H2 HN t8 l11 l12 l13 l14 l15 l21 l22 l23 l24 l25
  go_upto_region 17 with fail
  have hT := HX
  have hC : lC 13 = lC 13 := rfl
  conv at hC => rhs; whnf
  unfold FromL at hT
  rw [hC] at hT
  simp only [hdZ, tlZ] at hT
  rename_i hK
  exact hT _ _ _ _ _ _ _ _ _ _ _ _ _ _ _ _ _ _ _ _ _ _ _ _ _ _ _ _ _ _ _ _ _ _ _ _ _ _ _ _ _ _ _ _ _ _ _ _ _ _ _ _ _ _ _ _ _ _ _ _ _ _ _ _ _ _ _ _ _ _ _ _ _ _ _ _ _ _ _ _ _ _ _ _ _ _ _ _ _ _ _ _ _ _ _ _ _ _ _ _ _ _ _ _ _ _ _ _ _ _ _ _ _ _ _ _ _ _ _ _ _ _ _ _ _ _ _ _ _ _ _ _ _ _ _ _ _ _ _ hK
end Go.Proofs.Qxb6600184a
