/-
  Number refuses where what follows its integer part does.
-/
import Derived.Test.Qxb6600039aNumCode
import Derived.Deep.CutBlock
namespace Go.Proofs.Qxb6600039a
open Go.RowKit Sc

set_option maxRecDepth 100000 in
set_option maxHeartbeats 3200000 in
theorem numTail (w : World) (S n c b off i0 i1 : Nat) (d : Nat → Int) (I : NumIn w S n c b off d) (hg : Neg d n i0) (hp : IntPart d n i0 i1) (ht : From code9 w S i1) :
    Calls Try.prog 26 #[.pointer (some ⟨S, 0, none⟩)] w fun e w' => e = .returned (.bool false) ∧ w = w' := by
  have HT : Hid (From code9 w S i1) := ht
  clear ht
  have hn := I.hn
  have h0 := I.h0
  have h1 := I.h1
  have HI : Hid (NumIn w S n c b off d) := I
  have HC : Hid (∀ k, k < n → w.cell? ⟨b, off + k, none⟩ = some (.int .u8 (d k))) := I.hc
  have HG : Hid (Neg d n i0) := hg
  have HP : Hid (IntPart d n i0 i1) := hp
  clear I hg hp
  go_enter Try.func26, Try.ntmps26
  go_upto_region 2 with fail
  go_cut [24] from 4 (fun s24 wx => s24 = .bool (decide (i0 = 1)) ∧ wx = w)
  case first =>
    rcases HG.out with ⟨e0, e1 | ⟨hp, h45⟩⟩ | ⟨e0, hp, h45⟩
    · exfalso
      have := HP.out.1
      omega
    · subst e0
      have g0 : w.cell? ⟨b, off, none⟩ = some (.int .u8 (d 0)) := HC.out 0 hp
      have hz : (0 : Int) < (n : Int) := by omega
      go_wp2
      go_meet
      exact ⟨rfl, rfl⟩
    · subst e0
      have g0 : w.cell? ⟨b, off, none⟩ = some (.int .u8 (d 0)) := HC.out 0 hp
      have hz : (0 : Int) < (n : Int) := by omega
      go_wp2
      go_meet
      exact ⟨rfl, rfl⟩
  obtain ⟨rfl, rfl⟩ := hcut
  go_upto_if 24 with fail
  go_cut [3] from 4 (fun s3 wx => s3 = .int .i64 i0 ∧ wx = wc)
  case first =>
    rcases HG.out with ⟨e0, _⟩ | ⟨e0, _, _⟩ <;> subst e0
    · have t0 : decide ((0 : Nat) = 1) = false := rfl
      go_wp2
      go_meet
      exact ⟨rfl, rfl⟩
    · have t0 : decide ((1 : Nat) = 1) = true := rfl
      go_wp2
      go_meet
      exact ⟨rfl, rfl⟩
  obtain ⟨rfl, rfl⟩ := hcut
  go_upto_block 0 with fail
  go_cut [2, 3] from 4 (fun s2 s3 wx => s2 = .bool false ∧ s3 = .int .i64 i1 ∧ wx = wc)
  case first =>
    obtain ⟨hlt, hp⟩ := HP.out
    have hz : (i0 : Int) < (n : Int) := by omega
    have g0 := HC.out i0 hlt
    rcases hp with ⟨t1, e1⟩ | ⟨t1, t2, t3, hr⟩
    · subst e1
      go_wp2
      go_meet
      exact ⟨rfl, by go_num, rfl⟩
    · have HR : Hid (Run d n i0 i1) := hr
      clear hr
      go_wp2_with fail
      refine (digits_any _ S n c b off i0 i1 d HI.out.hn HI.out.h0 HI.out.hc HR.out).mono ?_
      rintro e w' ⟨rfl, rfl⟩
      go_wp2
      go_meet
      exact ⟨rfl, rfl, rfl⟩
  obtain ⟨rfl, rfl, rfl⟩ := hcut
  rename_i hK
  refine hK _ _ ?_
  have hT := HT.out u4 u5 u6 u7 u8 u9 u10 u11 u12 u13 u14 u15 u16 u17 u18 u19 u20 u21 u22 u23 u24 u25 u26 u27 u28 u29 u30 u31 u32 u33 u34 u35 u36 u37 u38 u39 u40 u41 u42 u43 u44 u45 u46 u47 u48 u49 u50 u51 u52 u53 u54 u55 u56 u57 u58 u59 u60 u61 u62 u63 u64 u65 u66 u67 u68 u69 u70 u71 u72 u73 u74 u75 u76 u77 u78 u79 u80 u81 u82 u83 u84 u85 u86 u87 u88 u89 u90 u91 u92 u93 u94 u95 u96 u97 u98 u99 u100 u101 u102 u103 u104 u105 u106 u107 u108 u109 u110 u111 u112 u113 u114 u115 u116 u117 u118 u119 u120 u121 u122 u123 u124 u125 u126 u127 u128 u129 u130 u131 u132 u133 u134 u135 u136 u137 u138 u139 u140 u141 u142 u143 u144 u145 u146 u147 u148 u149 u150 u151 u152 u153 u154 u155 u156 u157 u158 u159 u160 u161 u162 u163 u164 u165 u166 u167 u168 u169 u170 u171 u172 u173 u174 u175 u176 u177 u178 u179 u180 u181 u182 u183 u184 u185 u186 u187 u188 u189 u190 u191 u192 u193 u194 u195 u196 u197 u198 u199 u200
  conv at hT => arg 2; whnf
  exact hT
end Go.Proofs.Qxb6600039a
