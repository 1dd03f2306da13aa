/-
  Number behind its integer part: a fraction or none.
-/
import Derived.Test.Qxb6600039aNumCode
namespace Go.Proofs.Qxb6600039a
open Go.RowKit Sc

set_option maxRecDepth 100000 in
set_option maxHeartbeats 3200000 in
theorem frac9 (w : World) (S n c b off i1 i2 : Nat) (d : Nat → Int) (I : NumIn w S n c b off d) (hf : FracPart d n i1 i2) (ht : From code14 w S i2) : From code9 w S i1 := by
  have HT : Hid (From code14 w S i2) := ht
  clear ht
  have hn := I.hn
  have h0 := I.h0
  have HI : Hid (NumIn w S n c b off d) := I
  have HC : Hid (∀ k, k < n → w.cell? ⟨b, off + k, none⟩ = some (.int .u8 (d k))) := I.hc
  clear I
  intro u4 u5 u6 u7 u8 u9 u10 u11 u12 u13 u14 u15 u16 u17 u18 u19 u20 u21 u22 u23 u24 u25 u26 u27 u28 u29 u30 u31 u32 u33 u34 u35 u36 u37 u38 u39 u40 u41 u42 u43 u44 u45 u46 u47 u48 u49 u50 u51 u52 u53 u54 u55 u56 u57 u58 u59 u60 u61 u62 u63 u64 u65 u66 u67 u68 u69 u70 u71 u72 u73 u74 u75 u76 u77 u78 u79 u80 u81 u82 u83 u84 u85 u86 u87 u88 u89 u90 u91 u92 u93 u94 u95 u96 u97 u98 u99 u100 u101 u102 u103 u104 u105 u106 u107 u108 u109 u110 u111 u112 u113 u114 u115 u116 u117 u118 u119 u120 u121 u122 u123 u124 u125 u126 u127 u128 u129 u130 u131 u132 u133 u134 u135 u136 u137 u138 u139 u140 u141 u142 u143 u144 u145 u146 u147 u148 u149 u150 u151 u152 u153 u154 u155 u156 u157 u158 u159 u160 u161 u162 u163 u164 u165 u166 u167 u168 u169 u170 u171 u172 u173 u174 u175 u176 u177 u178 u179 u180 u181 u182 u183 u184 u185 u186 u187 u188 u189 u190 u191 u192 u193 u194 u195 u196 u197 u198 u199 u200
  conv => arg 2; whnf
  have HF : Hid (FracPart d n i1 i2) := hf
  have hlt1 : i1 < n := hf.1
  have g1 := HC.out i1 hlt1
  have hz : (i1 : Int) < (n : Int) := by omega
  clear hf
  go_upto_if 94 with fail
  go_cut [2, 3] from 4 (fun s2 s3 wx => s2 = .bool false ∧ s3 = .int .i64 i2 ∧ wx = w)
  case first =>
    rcases HF.out.2 with ⟨t46, e2⟩ | ⟨t46, hlt2, hd, hr⟩
    · subst e2
      go_wp2
      go_meet
      exact ⟨rfl, rfl, rfl⟩
    · have HR : Hid (Run d n (i1 + 1) i2) := hr
      have t2 : ((i1 : Int) + 1 == (n : Int)) = false := by simp; omega
      have hz2 : (i1 : Int) + 1 < (n : Int) := by omega
      have g2 := HC.out (i1 + 1) hlt2
      clear hr
      go_wp2_with fail
      refine (isDigit_yes _ _ hd).mono ?_
      rintro e w' ⟨rfl, rfl⟩
      go_wp2_with fail
      refine (digits_any _ S n c b off (i1 + 1) i2 d HI.out.hn HI.out.h0 HI.out.hc HR.out).mono ?_
      rintro e w' ⟨rfl, rfl⟩
      go_wp2
      go_meet
      exact ⟨rfl, rfl, rfl⟩
  obtain ⟨rfl, rfl, rfl⟩ := hcut
  clear g1 hz
  rename_i hK
  refine hK _ _ ?_
  have hT := HT.out u4 u5 u6 u7 u8 u9 u10 u11 u12 u13 u14 u15 u16 u17 u18 u19 u20 u21 u22 u23 u24 u25 u26 u27 u28 u29 u30 u31 u32 u33 u34 u35 u36 u37 u38 u39 u40 u41 u42 u43 u44 u45 u46 u47 u48 u49 u50 u51 u52 u53 u54 u55 u56 u57 u58 u59 u60 u61 u62 u63 u64 u65 u66 u67 u68 u69 u70 u71 u72 u73 u74 u75 u76 u77 u78 u79 u80 u81 u82 u83 u84 u85 u86 u87 u88 u89 u90 u91 u92 u93 u94 u95 u96 u97 u98 u99 u100 u101 u102 u103 u104 u105 u106 u107 u108 u109 u110 u111 u112 u113 u114 u115 u116 u117 u118 u119 u120 u121 u122 u123 u124 u125 u126 u127 u128 u129 u130 u131 u132 u133 u134 u135 u136 u137 u138 u139 u140 u141 u142 u143 u144 u145 u146 u147 u148 u149 u150 u151 u152 u153 u154 u155 u156 u157 u158 u159 u160 u161 u162 u163 u164 u165 u166 u167 u168 u169 u170 u171 u172 u173 u174 u175 u176 u177 u178 u179 u180 u181 u182 u183 u184 u185 u186 u187 u188 u189 u190 u191 u192 u193 u194 u195 u196 u197 u198 u199 u200
  conv at hT => arg 2; whnf
  exact hT
end Go.Proofs.Qxb6600039a
