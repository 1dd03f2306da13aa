/-
  FnByLockReuseAgreesWithFresh: the third split, the fresh ones, the comparison.
-/
import Derived.Test.Qxb6600184aLawC
namespace Go.Proofs.Qxb6600184a
open Go.RowKit
set_option linter.unusedVariables false

set_option maxRecDepth 100000 in
set_option maxHeartbeats 6400000 in
theorem lawD (w0 w : World) (I1 I2 : Ins) (L M nm B : Nat) (E : Nat → Ent) (G : ByteArray → Option (Int × Int)) (x1 x2 x3 : Value) (hm : Mid w0 w I1 I2 L M nm E 2 G) (hn : nm ≤ 8192) (hR : Rs B w x1 x2 x3 I2) (hL : L < B) (hM : M < B) (hE : LowE E B)
    (hnext : ∀ (w' : World) (B1 : Nat) (y1 y2 y3 : Value), w0.Since w0.heap.size w' → I1.Fit → I2.Fit → I1.In w' w'.heap.size → I2.In w' w'.heap.size → Rs B w' x1 x2 x3 I2 → Rs B1 w' y1 y2 y3 I1 → FromL (lC 17) w0 w' (.slice I1.aw I1.nw I1.cw) (.slice I1.aa I1.na I1.ca) (.slice I1.al I1.nw I1.cl) (.slice I1.ax I1.na I1.cx) (.slice I2.aw I2.nw I2.cw) (.slice I2.aa I2.na I2.ca) (.slice I2.al I2.nw I2.cl) (.slice I2.ax I2.na I2.cx) (.pointer (some ⟨L, 0, none⟩)) x1 x2 x3 y1 y2 y3 undef undef undef undef undef undef) :
    FromL (lC 16) w0 w (.slice I1.aw I1.nw I1.cw) (.slice I1.aa I1.na I1.ca) (.slice I1.al I1.nw I1.cl) (.slice I1.ax I1.na I1.cx) (.slice I2.aw I2.nw I2.cw) (.slice I2.aa I2.na I2.ca) (.slice I2.al I2.nw I2.cl) (.slice I2.ax I2.na I2.cx) (.pointer (some ⟨L, 0, none⟩)) x1 x2 x3 undef undef undef undef undef undef undef undef undef := by
  have H0 := hidd hm
  have HR := hidd (And.intro hR hE)
  have HN := hidd hnext
  clear hm hR hE hnext
  unfold FromL
  intro u8 u9 u10 u11 u12 u13 u14 u15 u16 u30 u31 u32 u33 u34 u35 u36 u37 u38 u39 u40 u41 u42 u43 u44 u45 u46 u47 u48 u49 u50 u51 u52 u53 u54 u55 u56 u57 u58 u59 u60 u61 u62 u63 u64 u65 u66 u67 u68 u69 u70 u71 u72 u73 u74 u75 u76 u77 u78 u79 u80 u81 u82 u83 u84 u85 u86 u87 u88 u89 u90 u91 u92 u93 u94 u95 u96 u97 u98 u99 u100 u101 u102 u103 u104 u105 u106 u107 u108 u109 u110 u111 u112 u113 u114 u115 u116 u117 u118 u119 u120 u121 u122 u123 u124 u125 u126 u127 u128 u129 u130 u131 u132 u133 u134 u135 u136 u137 u138 u139 u140 u141 u142 u143 u144 u145 u146 u147 u148 u149 u150 u151 u152 u153 u154 u155 u156 u157 u158 K hK
  have hC : lC 16 = lC 16 := rfl
  conv at hC => rhs; whnf
  rw [hC] at hK ⊢
  simp only [hdZ, tlZ] at hK ⊢
  clear hC
  go_wp2_with fail
  refine (H0.out.call ⟨by omega, by omega⟩ I1 H0.out.F1 H0.out.in1).mono ?_
  rintro e w1 ⟨E1, nm1, G1, v1, rfl, hk, hK1, hq⟩
  obtain ⟨hn1, m1⟩ := hk 12288 (by omega) (by omega)
  have HR1 := hidd (HR.out.1.keep hK1 hL hM HR.out.2)
  have H1 := hidd m1
  have HQ := hidd hq
  clear H0 hk hK1 hq m1 HR
  go_wp2_with fail
  refine (flatRs w1 v1 I1 H1.out.F1 HQ.out).mono ?_
  rintro e w2 ⟨⟨y1, y2, y3, rfl, hR2⟩, hs2⟩
  have H2 := hidd (H1.out.later hs2).1
  have HX := HN.out w2 w1.heap.size y1 y2 y3 H2.out.sn H2.out.F1 H2.out.F2 (H2.out.in1.mono (Nat.le_of_lt H2.out.st.map.lt)) (H2.out.in2.mono (Nat.le_of_lt H2.out.st.map.lt)) (HR1.out.since hs2) hR2
  clear hR2 hs2 H1 H2 HR1 HQ HN hn1 hn hL hM
  go_upto_region 21 with fail
  have hT := HX
  have hC : lC 17 = lC 17 := rfl
  conv at hC => rhs; whnf
  unfold FromL at hT
  rw [hC] at hT
  simp only [hdZ, tlZ] at hT
  rename_i hK
  exact hT _ _ _ _ _ _ _ _ _ _ _ _ _ _ _ _ _ _ _ _ _ _ _ _ _ _ _ _ _ _ _ _ _ _ _ _ _ _ _ _ _ _ _ _ _ _ _ _ _ _ _ _ _ _ _ _ _ _ _ _ _ _ _ _ _ _ _ _ _ _ _ _ _ _ _ _ _ _ _ _ _ _ _ _ _ _ _ _ _ _ _ _ _ _ _ _ _ _ _ _ _ _ _ _ _ _ _ _ _ _ _ _ _ _ _ _ _ _ _ _ _ _ _ _ _ _ _ _ _ _ _ _ _ _ _ _ _ _ _ hK

set_option maxRecDepth 100000 in
set_option maxHeartbeats 6400000 in
theorem lawE (w0 w : World) (I1 I2 : Ins) (p : Value) (B B1 : Nat) (x1 x2 x3 y1 y2 y3 : Value) (hs : w0.Since w0.heap.size w) (F1 : I1.Fit) (F2 : I2.Fit) (h1 : I1.In w w.heap.size) (h2 : I2.In w w.heap.size) (hR : Rs B w x1 x2 x3 I2) (hR1 : Rs B1 w y1 y2 y3 I1)
    (hnext : ∀ (w' : World) (B2 : Nat) (z1 z2 z3 : Value), w0.Since w0.heap.size w' → I1.Fit → I2.Fit → I1.In w' w'.heap.size → Rs B w' x1 x2 x3 I2 → Rs B1 w' y1 y2 y3 I1 → Rs B2 w' z1 z2 z3 I2 → FromL (lC 18) w0 w' (.slice I1.aw I1.nw I1.cw) (.slice I1.aa I1.na I1.ca) (.slice I1.al I1.nw I1.cl) (.slice I1.ax I1.na I1.cx) (.slice I2.aw I2.nw I2.cw) (.slice I2.aa I2.na I2.ca) (.slice I2.al I2.nw I2.cl) (.slice I2.ax I2.na I2.cx) p x1 x2 x3 y1 y2 y3 z1 z2 z3 undef undef undef) :
    FromL (lC 17) w0 w (.slice I1.aw I1.nw I1.cw) (.slice I1.aa I1.na I1.ca) (.slice I1.al I1.nw I1.cl) (.slice I1.ax I1.na I1.cx) (.slice I2.aw I2.nw I2.cw) (.slice I2.aa I2.na I2.ca) (.slice I2.al I2.nw I2.cl) (.slice I2.ax I2.na I2.cx) p x1 x2 x3 y1 y2 y3 undef undef undef undef undef undef := by
  have HF := hidd (And.intro F1 F2)
  have HI := hidd (And.intro h1 h2)
  have HS := hidd hs
  have HR := hidd (And.intro hR hR1)
  have HN := hidd hnext
  clear hs F1 F2 h1 h2 hR hR1 hnext
  unfold FromL
  intro u8 u9 u10 u11 u12 u13 u14 u15 u16 u30 u31 u32 u33 u34 u35 u36 u37 u38 u39 u40 u41 u42 u43 u44 u45 u46 u47 u48 u49 u50 u51 u52 u53 u54 u55 u56 u57 u58 u59 u60 u61 u62 u63 u64 u65 u66 u67 u68 u69 u70 u71 u72 u73 u74 u75 u76 u77 u78 u79 u80 u81 u82 u83 u84 u85 u86 u87 u88 u89 u90 u91 u92 u93 u94 u95 u96 u97 u98 u99 u100 u101 u102 u103 u104 u105 u106 u107 u108 u109 u110 u111 u112 u113 u114 u115 u116 u117 u118 u119 u120 u121 u122 u123 u124 u125 u126 u127 u128 u129 u130 u131 u132 u133 u134 u135 u136 u137 u138 u139 u140 u141 u142 u143 u144 u145 u146 u147 u148 u149 u150 u151 u152 u153 u154 u155 u156 u157 u158 K hK
  have hC : lC 17 = lC 17 := rfl
  conv at hC => rhs; whnf
  rw [hC] at hK ⊢
  simp only [hdZ, tlZ] at hK ⊢
  clear hC
  go_wp2_with fail
  refine (new_any w).mono ?_
  rintro e w1 ⟨rfl, hst, hs1⟩
  have HT := hidd (And.intro hst hs1)
  clear hst hs1
  go_wp2_with fail
  refine (fresh_call w w1 I2 HF.out.2 HI.out.2 HT.out.1 HT.out.2).mono ?_
  rintro e w2 ⟨⟨v, rfl, hq⟩, hs2⟩
  have HQ := hidd hq
  clear hq HT
  go_wp2_with fail
  refine (flatRs w2 v I2 HF.out.2 HQ.out).mono ?_
  rintro e w3 ⟨⟨z1, z2, z3, rfl, hR3⟩, hs3⟩
  have hs3' := Since.step hs2 hs3
  have HX := HN.out w3 w2.heap.size z1 z2 z3 (Since.step HS.out hs3') HF.out.1 HF.out.2 ((HI.out.1.since hs3').mono hs3'.size) (HR.out.1.since hs3') (HR.out.2.since hs3') hR3
  clear hR3 hs3 hs3' HQ hs2 HS HF HI HR HN
  go_upto_region 22 with fail
  have hT := HX
  have hC : lC 18 = lC 18 := rfl
  conv at hC => rhs; whnf
  unfold FromL at hT
  rw [hC] at hT
  simp only [hdZ, tlZ] at hT
  rename_i hK
  exact hT _ _ _ _ _ _ _ _ _ _ _ _ _ _ _ _ _ _ _ _ _ _ _ _ _ _ _ _ _ _ _ _ _ _ _ _ _ _ _ _ _ _ _ _ _ _ _ _ _ _ _ _ _ _ _ _ _ _ _ _ _ _ _ _ _ _ _ _ _ _ _ _ _ _ _ _ _ _ _ _ _ _ _ _ _ _ _ _ _ _ _ _ _ _ _ _ _ _ _ _ _ _ _ _ _ _ _ _ _ _ _ _ _ _ _ _ _ _ _ _ _ _ _ _ _ _ _ _ _ _ _ _ _ _ _ _ _ _ _ hK

set_option maxRecDepth 100000 in
set_option maxHeartbeats 6400000 in
theorem lawF (w0 w : World) (I1 I2 : Ins) (p : Value) (B B1 B2 : Nat) (x1 x2 x3 y1 y2 y3 z1 z2 z3 : Value) (hs : w0.Since w0.heap.size w) (F1 : I1.Fit) (F2 : I2.Fit) (h1 : I1.In w w.heap.size) (hR : Rs B w x1 x2 x3 I2) (hR1 : Rs B1 w y1 y2 y3 I1) (hR2 : Rs B2 w z1 z2 z3 I2) :
    FromL (lC 18) w0 w (.slice I1.aw I1.nw I1.cw) (.slice I1.aa I1.na I1.ca) (.slice I1.al I1.nw I1.cl) (.slice I1.ax I1.na I1.cx) (.slice I2.aw I2.nw I2.cw) (.slice I2.aa I2.na I2.ca) (.slice I2.al I2.nw I2.cl) (.slice I2.ax I2.na I2.cx) p x1 x2 x3 y1 y2 y3 z1 z2 z3 undef undef undef := by
  have HF := hidd (And.intro F1 F2)
  have HI := hidd h1
  have HS := hidd hs
  have HR := hidd (And.intro hR (And.intro hR1 hR2))
  clear hs F1 F2 h1 hR hR1 hR2
  unfold FromL
  intro u8 u9 u10 u11 u12 u13 u14 u15 u16 u30 u31 u32 u33 u34 u35 u36 u37 u38 u39 u40 u41 u42 u43 u44 u45 u46 u47 u48 u49 u50 u51 u52 u53 u54 u55 u56 u57 u58 u59 u60 u61 u62 u63 u64 u65 u66 u67 u68 u69 u70 u71 u72 u73 u74 u75 u76 u77 u78 u79 u80 u81 u82 u83 u84 u85 u86 u87 u88 u89 u90 u91 u92 u93 u94 u95 u96 u97 u98 u99 u100 u101 u102 u103 u104 u105 u106 u107 u108 u109 u110 u111 u112 u113 u114 u115 u116 u117 u118 u119 u120 u121 u122 u123 u124 u125 u126 u127 u128 u129 u130 u131 u132 u133 u134 u135 u136 u137 u138 u139 u140 u141 u142 u143 u144 u145 u146 u147 u148 u149 u150 u151 u152 u153 u154 u155 u156 u157 u158 K hK
  have hC : lC 18 = lC 18 := rfl
  conv at hC => rhs; whnf
  rw [hC] at hK ⊢
  simp only [hdZ, tlZ] at hK ⊢
  clear hC
  go_wp2_with fail
  refine (new_any w).mono ?_
  rintro e w1 ⟨rfl, hst, hs1⟩
  have HT := hidd (And.intro hst hs1)
  clear hst hs1
  go_wp2_with fail
  refine (fresh_call w w1 I1 HF.out.1 HI.out HT.out.1 HT.out.2).mono ?_
  rintro e w2 ⟨⟨v, rfl, hq⟩, hs2⟩
  have HQ := hidd hq
  clear hq HT
  go_wp2_with fail
  refine (flatRs w2 v I1 HF.out.1 HQ.out).mono ?_
  rintro e w3 ⟨⟨t1, t2, t3, rfl, hR3⟩, hs3⟩
  have hs3' := Since.step hs2 hs3
  have HS3 := hidd (Since.step HS.out hs3')
  have HRs := hidd (And.intro (HR.out.1.since hs3') (And.intro (HR.out.2.1.since hs3') (And.intro (HR.out.2.2.since hs3') hR3)))
  clear hR3 hs3 hs3' HQ hs2 HS HI HR
  go_wp2_with fail
  refine (sameRs w3 x1 x2 x3 z1 z2 z3 I2 HF.out.2 HRs.out.1 HRs.out.2.2.1).mono ?_
  rintro e w4 ⟨rfl, hs4⟩
  have HS4 := hidd (Since.step HS3.out hs4)
  have HRt := hidd (And.intro (HRs.out.2.1.since hs4) (HRs.out.2.2.2.since hs4))
  clear HS3 HRs hs4
  go_wp2_with fail
  refine (sameRs w4 y1 y2 y3 t1 t2 t3 I1 HF.out.1 HRt.out.1 HRt.out.2).mono ?_
  rintro e w5 ⟨rfl, hs5⟩
  have HS5 := hidd (Since.step HS4.out hs5)
  clear HS4 HRt HF hs5
  go_wp2
  go_ret
  exact ⟨rfl, HS5.out⟩

/-- Whatever the input: true. -/
theorem law_any (w : World) (a1 a2 a3 a4 a5 a6 a7 a8 : Option Addr) (n1 n2 n3 n4 n5 n6 n7 n8 c1 c2 c3 c4 c5 c6 c7 c8 : Nat) (f1 f2 f5 f6 : Nat → Int) (N1 N2 : Nat → ByteArray) (xl1 xl2 : Nat → Nat) (X1 X2 : Nat → Nat → ByteArray)
    (S1 : Side w a1 a2 a3 a4 n1 n2 n3 n4 c1 c2 c3 c4 f1 f2 N1 xl1 X1) (S2 : Side w a5 a6 a7 a8 n5 n6 n7 n8 c5 c6 c7 c8 f5 f6 N2 xl2 X2) :
    Calls Try.prog 4 #[.slice a1 n1 c1, .slice a2 n2 c2, .slice a3 n3 c3, .slice a4 n4 c4, .slice a5 n5 c5, .slice a6 n6 c6, .slice a7 n7 c7, .slice a8 n8 c8] w (LawPost w) := by
  refine lawA w a1 a2 a3 a4 a5 a6 a7 a8 n1 n2 n3 n4 n5 n6 n7 n8 c1 c2 c3 c4 c5 c6 c7 c8 f1 f2 f5 f6 N1 N2 xl1 xl2 X1 X2 S1 S2 fun e1 e2 e3 e4 l1 l2 => ?_
  refine lawB w a1 a2 a3 a4 a5 a6 a7 a8 n1 n2 n3 n4 n5 n6 n7 n8 c1 c2 c3 c4 c5 c6 c7 c8 f1 f2 f5 f6 N1 N2 xl1 xl2 X1 X2 S1 S2 e1 e2 e3 e4 l1 l2 fun w1 I1 I2 F1 F2 i1 i2 hs => ?_
  refine lawC w w1 I1 I2 F1 F2 i1 i2 hs fun w2 L M nm B E G x1 x2 x3 hm hn hR hL hM hE => ?_
  refine lawD w w2 I1 I2 L M nm B E G x1 x2 x3 hm hn hR hL hM hE fun w3 B1 y1 y2 y3 hs F1 F2 i1 i2 r1 r2 => ?_
  refine lawE w w3 I1 I2 _ B B1 x1 x2 x3 y1 y2 y3 hs F1 F2 i1 i2 r1 r2 fun w4 B2 z1 z2 z3 hs F1 F2 i1 r1 r2 r3 => ?_
  exact lawF w w4 I1 I2 _ B B1 B2 x1 x2 x3 y1 y2 y3 z1 z2 z3 hs F1 F2 i1 r1 r2 r3
end Go.Proofs.Qxb6600184a
