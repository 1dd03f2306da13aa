/-
  byLock, the queues laid down.
-/
import Derived.Test.Qxb6600184aBy4
import Derived.Test.Qxb6600184aParts
namespace Go.Proofs.Qxb6600184a
open Go.RowKit
set_option linter.unusedSimpArgs false
set_option linter.unusedVariables false

theorem Try.info57 : (Try.prog.info? 57).map (fun i => (i.zero, i.size, i.bytes)) = some (some (.agg #[.slice none 0 0, .slice none 0 0, .slice none 0 0, .slice none 0 0, .int .u8 0]), 5, 104) := by kernel_rfl

/-- One queue in memory. -/
def ent (xa xw : Value) : List Value := [xa, .slice none 0 0, xw, .slice none 0 0, .int .u8 0]
def ents (A W : Nat → Value) (k : Nat) : List Value := (List.range k).flatMap fun j => ent (A j) (W j)

/-- The state in her last loop, k queues laid down. -/
def S5 (w : World) (L M nm : Nat) (E : Nat → Ent) (c : Int) (G : ByteArray → Option (Int × Int)) (I : Ins) (aa aw : Option Addr) (k : Nat) (wr : World) : Prop :=
  ∃ E' v A W, St wr L M nm E' c G ∧ Keep w wr L M E E' ∧ E' 10 = ⟨57, 5, v, k, ents A W k⟩ ∧ (∀ i, i ≠ 10 → E' i = E i) ∧ ∀ j, j < k → PartV aa (sumTo (cfT I.κa I.nt) j) (cn I.κa j I.nt) (A j) ∧ PartV aw (sumTo (cfT I.κw I.nw) j) (cn I.κw j I.nw) (W j)

theorem ent_one (y1 y2 : Option Addr) (n1 z1 n2 z2 : Nat) : ∀ u ∈ ent (.slice y1 n1 z1) (.slice y2 n2 z2), u.oneCell' = true := by
  intro u hu
  simp only [ent, List.mem_cons, List.not_mem_nil, or_false] at hu
  rcases hu with rfl | rfl | rfl | rfl | rfl <;> rfl

theorem ents_next (A W : Nat → Value) (k : Nat) (xa xw : Value) : ents A W k ++ ent xa xw = ents (fun j => if j = k then xa else A j) (fun j => if j = k then xw else W j) (k + 1) := by
  unfold ents
  rw [List.range_succ, List.flatMap_append]
  congr 1
  · rw [List.flatMap_def, List.flatMap_def]
    congr 1
    refine List.map_congr_left fun j hj => ?_
    have : j ≠ k := by have := List.mem_range.1 hj; omega
    simp [this]
  · simp

theorem boxq (w2 : World) (L k cv : Nat) (av : Option Addr) (n1 z1 n2 z2 : Nat) (y1 y2 : Option Addr) (xs : List Value) {E : Nat → Ent} {c0 c1 : Value} (h : LS w2 L E c0 c1) (ho : w2.ownsRow (L + 1) 57 5 (.slice av k cv) k xs) :
    ∃ wa, wa = w2.alloc (.cells #[.slice y1 n1 z1, .slice none 0 0, .slice y2 n2 z2, .slice none 0 0, .int .u8 0] 57) ∧ LS wa L E c0 c1 ∧ Step w2 wa L E E ∧ (∀ i x, w2.cell? ⟨L, i, none⟩ = some x → wa.cell? ⟨L, i, none⟩ = some x) ∧ wa.heap.size = w2.heap.size + 1 ∧
      (∀ j u, (ent (.slice y1 n1 z1) (.slice y2 n2 z2))[j]? = some u → wa.cell? ((⟨w2.heap.size, 0, none⟩ : Addr).add j) = some u) ∧ wa.ownsRow (L + 1) 57 5 (.slice av k cv) k xs := by
  obtain ⟨h1, h2⟩ := h.alloc (.cells #[.slice y1 n1 z1, .slice none 0 0, .slice y2 n2 z2, .slice none 0 0, .int .u8 0] 57)
  refine ⟨_, rfl, h1, h2, fun i x hx => old1 hx _, by simp, fun j u hu => ?_, ho.alloc _⟩
  have hb := heap_alloc_new w2 (.cells #[.slice y1 n1 z1, .slice none 0 0, .slice y2 n2 z2, .slice none 0 0, .int .u8 0] 57)
  rw [Addr.add_lit, Nat.zero_add]
  simp only [World.cell?, hb]
  simpa [ent] using hu

theorem slice_head35 {w : World} {base : Nat} {a : Option Addr} {m0 c : Nat} {xs : List Value} (h : w.ownsRow base 57 5 (.slice a m0 c) m0 xs) (m : Nat) (W : World) :
    (Instr.slice 35 (.slice a m c) none (some (.int .i64 0)) none).run Try.prog W = .ok (.slice a 0 c) W := by
  have h0 := run_slice_h (P := Try.prog) W 35 a m c Try.underlying35 .i64 (0 : Int) (by omega) (by omega)
  rw [h0]
  have : (sizeOf (Try.prog.elem 35)).run Try.prog W = .ok 5 W := by kernel_rfl
  rw [this]
  rcases h.2 with ⟨e, _⟩ | ⟨g', cap, cur, hv', _⟩
  · simp only [Value.slice.injEq] at e
    obtain ⟨rfl, _, _⟩ := e
    simp [sliced, Result.andThen]
  · simp only [Value.slice.injEq] at hv'
    obtain ⟨rfl, _, _⟩ := hv'
    simp [sliced, Result.andThen, Addr.add]

theorem ownsRow_zero5 {w : World} {base : Nat} {e : TypeId} {a : Option Addr} {n c : Nat} {xs : List Value} (h : w.ownsRow base e 5 (.slice a n c) n xs) : w.ownsRow base e 5 (.slice a 0 c) 0 [] := by
  refine ⟨rfl, ?_⟩
  rcases h.2 with ⟨hv, h0⟩ | ⟨g, cap, cur, hv, hb, hh, _, hcm, hcs, _⟩
  · simp only [Value.slice.injEq] at hv
    obtain ⟨rfl, rfl, rfl⟩ := hv
    exact .inl ⟨rfl, rfl⟩
  · simp only [Value.slice.injEq] at hv
    obtain ⟨rfl, _, rfl⟩ := hv
    exact .inr ⟨g, c, cur, rfl, hb, hh, Nat.zero_le _, hcm, hcs, rfl⟩

set_option maxRecDepth 100000 in
set_option maxHeartbeats 3200000 in
theorem by5 (R : Ending → World → Prop) (w : World) (L M Bx nm ga ca cia gw cw ciw : Nat) (I : Ins) (E : Nat → Ent) (c : Int) (G : ByteArray → Option (Int × Int)) (aa aw : Option Addr) (xa xw : List Value) (F : I.Fit) (hst : St w L M nm E c G)
    (b1 : E 7 = lsRow ga (I.q + 1) ca (rowL (I.q + 1) (fun i => .int .i64 (sumTo (cfT I.κa I.nt) i : Nat)))) (b2 : E 8 = ⟨3, 1, .slice aa (sumTo (cfT I.κa I.nt) I.q) cia, sumTo (cfT I.κa I.nt) I.q, xa⟩)
    (d1 : E 4 = lsRow gw (I.q + 1) cw (rowL (I.q + 1) (fun i => .int .i64 (sumTo (cfT I.κw I.nw) i : Nat)))) (d2 : E 5 = ⟨3, 1, .slice aw (sumTo (cfT I.κw I.nw) I.q) ciw, sumTo (cfT I.κw I.nw) I.q, xw⟩)
    (he : (E 10).e = 57 ∧ (E 10).sz = 5)
    (hR : ∀ w' E' v A W, St w' L M nm E' c G → Keep w w' L M E E' → E' 10 = ⟨57, 5, v, I.q, ents A W I.q⟩ → (∀ i, i ≠ 10 → E' i = E i) → (∀ j, j < I.q → PartV aa (sumTo (cfT I.κa I.nt) j) (cn I.κa j I.nt) (A j) ∧ PartV aw (sumTo (cfT I.κw I.nw) j) (cn I.κw j I.nw) (W j)) → R (.returned v) w') : FromB (byC 16) R L Bx I (I.q : Nat) w := by
  have HR := hid hR
  have HF := hid F
  have HS := hid hst
  have HB := hid (And.intro (And.intro b1 b2) (And.intro d1 d2))
  have hnw := F.nw
  have hq := I.q_le
  have o10 := hst.ls.own 10 (by omega) (by omega)
  rw [he.1, he.2] at o10
  obtain ⟨a0, cc0, hv0⟩ := ownsRow_shape2 o10
  have p10 := hst.ls.cellE (i := 10) (by omega) (by omega)
  have f10 := hst.ls.frozen 10
  rw [hv0] at o10 p10
  have oz := ownsRow_zero5 o10
  have sl0 := fun m => slice_head35 oz m
  obtain ⟨hLf, hsf⟩ := hst.ls.field (i := 10) (by omega) (by omega) (w1 := w) ⟨rfl, rfl, rfl, Nat.le_refl _, fun _ _ _ => rfl⟩ oz (fun b hb => by left; rw [hv0, ownBlock_of a0 _ _ 0 cc0]; exact hb)
  have HS0 := hid (show S5 w L M nm E c G I aa aw 0 (w.setCell ⟨L, 10, none⟩ (.slice a0 0 cc0)) from ⟨_, .slice a0 0 cc0, fun _ => undef, fun _ => undef, hst.step hLf hsf, hsf.keep M, upd_same _ _ _, fun i hi => upd_other _ _ hi, fun j hj => absurd hj (by omega)⟩)
  obtain ⟨m0, hm0⟩ : ∃ m0, m0 = (E 10).n := ⟨_, rfl⟩
  rw [← hm0] at p10
  clear hR F hst he o10 hv0 oz hLf hsf hm0 b1 b2 d1 d2
  intro u1 u4 u6 u7 u8 u10 u11 u12 u13 u14 u15 u16 u17 u18 u19 u20 u21 u22 u23 u24 u25 u26 u27 u28 u29 u30 u31 u32 u33 u34 u35 u36 u37 u38 u39 u40 u41 u42 u43 u44 u45 u46 u47 u48 u49 u50 u51 u52 u53 u54 u55 u56 u57 u58 u59 u60 u61 u62 u63 u64 u65 u66 u67 u68 u69 u70 u71 u72 u73 u74 u75 u76 u77 u78 u79 u80 u81 u82 u83 u84 u85 u86 u87 u88 u89 u90 u91 u92 u93 u94 u95 u96 u97 u98 u99 u100 u101 u102 u103 u104 u105 u106 u107 u108 u109 u110 u111 u112 u113 u114 u115 u116 u117 u118 u119 u120 u121 u122 u123 u124 u125 u126 u127 u128 u129 u130 u131 u132 u133 u134 u135 u136 u137 u138 u139 u140 u141 u142 u143 u144 u145 u146 u147 u148 u149 u150 u151 u152 u153 u154 u155 u156 u157 u158 u159 u160 u161 u162 u163 u164 u165 u166 u167 u168 u169 u170 u171 u172 u173 u174 u175 u176 u177 u178 u179 u180 u181 u182 u183 u184 u185 u186 u187 u188 u189 u190 u191 u192 u193 u194 u195 u196 u197 u198 u199 u200 u201 u202 u203 u204 u205 u206 u207 u208 u209 u210 u211 u212 u213 u214 u215 u216 u217 u218 u219 u220 u221 u222 u223 u224 u225 u226 u227 u228 u229 u230 u231 u232 u233 u234 u235 u236 u237 u238 u239 u240 u241 u242 u243 u244 u245 u246 u247 u248 u249 u250 u251 u252 u253 u254 u255 u256 u257 u258 u259 u260 u261 u262 u263 u264 u265 u266 u267 u268 u269 u270 u271 u272 u273 u274 u275 u276 u277 u278 u279 u280 u281 u282 u283 u284 u285 u286 u287 u288 u289 u290 u291 u292 u293 u294 u295 u296 u297
  conv => arg 2; whnf
  go_upto_block 16 with fail
  generalize w.setCell ⟨L, 10, none⟩ (.slice a0 0 cc0) = w0 at HS0 ⊢
  clear p10 f10 sl0
  go_cut [] from 10 (fun wx => Hid (S5 w L M nm E c G I aa aw I.q wx))
  case first =>
    go_wp2_with fail
    go_loopg [266] I.q (fun g s266 wr => ∃ k : Nat, k ≤ I.q ∧ g = I.q - k ∧ s266 = .int .i64 k ∧ Hid (S5 w L M nm E c G I aa aw k wr))
    case atStart => exact ⟨0, Nat.zero_le _, rfl, rfl, HS0⟩
    case round =>
      obtain ⟨k, hk, rfl, rfl, hS⟩ := hrel
      clear HS0
      by_cases hlt : k < I.q
      · obtain ⟨E', v, A, W, hSt, hK, hE10, hEo, hP⟩ := hS.out
        have hzk : (k : Int) < (I.q : Int) := by omega
        have hown := hSt.ls.own 10 (by omega) (by omega)
        rw [hE10] at hown
        simp only at hown
        obtain ⟨av, cv, rfl⟩ := ownsRow_shape2 hown
        have b1 := (hEo 7 (by omega)).trans HB.out.1.1
        have b2 := (hEo 8 (by omega)).trans HB.out.1.2
        have d1 := (hEo 4 (by omega)).trans HB.out.2.1
        have d2 := (hEo 5 (by omega)).trans HB.out.2.2
        have p10 : wr.cell? ⟨L, 10, none⟩ = some (.slice av k cv) := by have := hSt.ls.cellE (i := 10) (by omega) (by omega); rw [hE10] at this; exact this
        have p7 : wr.cell? ⟨L, 7, none⟩ = some (.slice (some ⟨ga, 0, none⟩) (I.q + 1) ca) := by have := hSt.ls.cellE (i := 7) (by omega) (by omega); rw [b1] at this; exact this
        have p8 : wr.cell? ⟨L, 8, none⟩ = some (.slice aa (sumTo (cfT I.κa I.nt) I.q) cia) := by have := hSt.ls.cellE (i := 8) (by omega) (by omega); rw [b2] at this; exact this
        have p4 : wr.cell? ⟨L, 4, none⟩ = some (.slice (some ⟨gw, 0, none⟩) (I.q + 1) cw) := by have := hSt.ls.cellE (i := 4) (by omega) (by omega); rw [d1] at this; exact this
        have p5 : wr.cell? ⟨L, 5, none⟩ = some (.slice aw (sumTo (cfT I.κw I.nw) I.q) ciw) := by have := hSt.ls.cellE (i := 5) (by omega) (by omega); rw [d2] at this; exact this
        have HSW := hid (And.intro p10 (And.intro p7 (And.intro p8 (And.intro p4 p5))))
        have hL := hSt.ls.lt
        have HST := hid hSt
        have HKK := hid hK
        have HE := hid (And.intro hE10 hEo)
        have HP := hid hP
        have HBD := hid (And.intro (And.intro b1 b2) (And.intro d1 d2))
        obtain ⟨i0, hi0, hzz⟩ := Option.map_eq_some_iff.1 Try.info57
        simp only [Prod.mk.injEq] at hzz
        obtain ⟨hz0, hz1, hz2⟩ := hzz
        clear hSt hK hE10 hEo hP hS hown b1 b2 d1 d2
        go_upto_region 64 with fail
        refine wp_region_F (fun w' => w'.cell? ⟨L, 10, none⟩ = some (.slice av k cv) ∧ w'.cell? ⟨L, 7, none⟩ = some (.slice (some ⟨ga, 0, none⟩) (I.q + 1) ca) ∧ w'.cell? ⟨L, 8, none⟩ = some (.slice aa (sumTo (cfT I.κa I.nt) I.q) cia) ∧ w'.cell? ⟨L, 4, none⟩ = some (.slice (some ⟨gw, 0, none⟩) (I.q + 1) cw) ∧ w'.cell? ⟨L, 5, none⟩ = some (.slice aw (sumTo (cfT I.κw I.nw) I.q) ciw)) 24 (by kernel_rfl) (by simp only [World.cell?_drew]; exact HSW.out) (fun hHeld => ?_)
        refine OrdF.take 24 0 (v := ?_) rfl rfl (by kernel_rfl) (by kernel_rfl) (by kernel_rfl) (by kernel_rfl) rfl (fun _ _ _ h => h) (Or.inl ⟨by rfl, ?_⟩) hHeld ?_
        rotate_left
        · intro w hSw; (try dsimp only at hSw); go_simp <;> with_reducible rfl
        simp only [Act.put, List.setIfInBounds_toArray, List.set_cons_zero, List.set_cons_succ]
        refine OrdF.take 24 1 (v := ?_) rfl rfl (by kernel_rfl) (by kernel_rfl) (by kernel_rfl) (by kernel_rfl) rfl (fun _ _ _ h => h) (Or.inl ⟨by rfl, ?_⟩) hHeld ?_
        rotate_left
        · intro w hSw; (try dsimp only at hSw); go_simp <;> with_reducible rfl
        simp only [Act.put, List.setIfInBounds_toArray, List.set_cons_zero, List.set_cons_succ]
        refine OrdF.take 24 2 (v := ?_) rfl rfl (by kernel_rfl) (by kernel_rfl) (by kernel_rfl) (by kernel_rfl) rfl (fun _ _ _ h => h) (Or.inl ⟨by rfl, ?_⟩) hHeld ?_
        rotate_left
        · intro w hSw; (try dsimp only at hSw); go_simp <;> with_reducible rfl
        simp only [Act.put, List.setIfInBounds_toArray, List.set_cons_zero, List.set_cons_succ]
        refine OrdF.take 24 3 (v := ?_) rfl rfl (by kernel_rfl) (by kernel_rfl) (by kernel_rfl) (by kernel_rfl) rfl (fun _ _ _ h => h) (Or.inl ⟨by rfl, ?_⟩) hHeld ?_
        rotate_left
        · intro w hSw; (try dsimp only at hSw); go_simp <;> with_reducible rfl
        simp only [Act.put, List.setIfInBounds_toArray, List.set_cons_zero, List.set_cons_succ]
        refine OrdF.take 24 4 (v := ?_) rfl rfl (by kernel_rfl) (by kernel_rfl) (by kernel_rfl) (by kernel_rfl) rfl (fun _ _ _ h => h) (Or.inl ⟨by rfl, ?_⟩) hHeld ?_
        rotate_left
        · intro w hSw; (try dsimp only at hSw); go_simp <;> with_reducible rfl
        simp only [Act.put, List.setIfInBounds_toArray, List.set_cons_zero, List.set_cons_succ]
        refine OrdF.take 24 5 (v := ?_) rfl rfl (by kernel_rfl) (by kernel_rfl) (by kernel_rfl) (by kernel_rfl) rfl (fun _ _ _ h => h) (Or.inl ⟨by rfl, ?_⟩) hHeld ?_
        rotate_left
        · intro w hSw; (try dsimp only at hSw); go_simp <;> with_reducible rfl
        simp only [Act.put, List.setIfInBounds_toArray, List.set_cons_zero, List.set_cons_succ]
        refine OrdF.take 24 6 (v := ?_) rfl rfl (by kernel_rfl) (by kernel_rfl) (by kernel_rfl) (by kernel_rfl) rfl (fun _ _ _ h => h) (Or.inl ⟨by rfl, ?_⟩) hHeld ?_
        rotate_left
        · intro w hSw; (try dsimp only at hSw); go_simp <;> with_reducible rfl
        simp only [Act.put, List.setIfInBounds_toArray, List.set_cons_zero, List.set_cons_succ]
        refine OrdF.take 24 7 (v := ?_) rfl rfl (by kernel_rfl) (by kernel_rfl) (by kernel_rfl) (by kernel_rfl) rfl (fun _ _ _ h => h) (Or.inl ⟨by rfl, ?_⟩) hHeld ?_
        rotate_left
        · intro w hSw; (try dsimp only at hSw); go_simp <;> with_reducible rfl
        simp only [Act.put, List.setIfInBounds_toArray, List.set_cons_zero, List.set_cons_succ]
        refine OrdF.take 24 8 (v := ?_) rfl rfl (by kernel_rfl) (by kernel_rfl) (by kernel_rfl) (by kernel_rfl) rfl (fun _ _ _ h => h) (Or.inl ⟨by rfl, ?_⟩) hHeld ?_
        rotate_left
        · intro w hSw; (try dsimp only at hSw); go_simp <;> with_reducible rfl
        simp only [Act.put, List.setIfInBounds_toArray, List.set_cons_zero, List.set_cons_succ]
        refine OrdF.take 24 9 (v := ?_) rfl rfl (by kernel_rfl) (by kernel_rfl) (by kernel_rfl) (by kernel_rfl) rfl (fun _ _ _ h => h) (Or.inl ⟨by rfl, ?_⟩) hHeld ?_
        rotate_left
        · intro w hSw; (try dsimp only at hSw); go_simp <;> with_reducible rfl
        simp only [Act.put, List.setIfInBounds_toArray, List.set_cons_zero, List.set_cons_succ]
        refine OrdF.take 24 10 (v := ?_) rfl rfl (by kernel_rfl) (by kernel_rfl) (by kernel_rfl) (by kernel_rfl) rfl (fun _ _ _ h => h) (Or.inl ⟨by rfl, ?_⟩) hHeld ?_
        rotate_left
        · intro w hSw; (try dsimp only at hSw); go_simp <;> with_reducible rfl
        simp only [Act.put, List.setIfInBounds_toArray, List.set_cons_zero, List.set_cons_succ]
        refine OrdF.take 24 12 (v := ?_) rfl rfl (by kernel_rfl) (by kernel_rfl) (by kernel_rfl) (by kernel_rfl) rfl (fun _ _ _ h => h) (Or.inl ⟨by rfl, ?_⟩) hHeld ?_
        rotate_left
        · intro w hSw; (try dsimp only at hSw); go_simp <;> with_reducible rfl
        simp only [Act.put, List.setIfInBounds_toArray, List.set_cons_zero, List.set_cons_succ]
        refine OrdF.take 24 13 (v := ?_) rfl rfl (by kernel_rfl) (by kernel_rfl) (by kernel_rfl) (by kernel_rfl) rfl (fun _ _ _ h => h) (Or.inl ⟨by rfl, ?_⟩) hHeld ?_
        rotate_left
        · intro w hSw; (try dsimp only at hSw); go_simp <;> with_reducible rfl
        simp only [Act.put, List.setIfInBounds_toArray, List.set_cons_zero, List.set_cons_succ]
        refine OrdF.take 24 14 (v := ?_) rfl rfl (by kernel_rfl) (by kernel_rfl) (by kernel_rfl) (by kernel_rfl) rfl (fun _ _ _ h => h) (Or.inl ⟨by rfl, ?_⟩) hHeld ?_
        rotate_left
        · intro w hSw; (try dsimp only at hSw); go_simp <;> with_reducible rfl
        simp only [Act.put, List.setIfInBounds_toArray, List.set_cons_zero, List.set_cons_succ]
        refine OrdF.take 24 15 (v := ?_) rfl rfl (by kernel_rfl) (by kernel_rfl) (by kernel_rfl) (by kernel_rfl) rfl (fun _ _ _ h => h) (Or.inl ⟨by rfl, ?_⟩) hHeld ?_
        rotate_left
        · intro w hSw; (try dsimp only at hSw); go_simp <;> with_reducible rfl
        simp only [Act.put, List.setIfInBounds_toArray, List.set_cons_zero, List.set_cons_succ]
        refine OrdF.take 24 16 (v := ?_) rfl rfl (by kernel_rfl) (by kernel_rfl) (by kernel_rfl) (by kernel_rfl) rfl (fun _ _ _ h => h) (Or.inl ⟨by rfl, ?_⟩) hHeld ?_
        rotate_left
        · intro w hSw; (try dsimp only at hSw); go_simp <;> with_reducible rfl
        simp only [Act.put, List.setIfInBounds_toArray, List.set_cons_zero, List.set_cons_succ]
        refine OrdF.take 24 17 (v := ?_) rfl rfl (by kernel_rfl) (by kernel_rfl) (by kernel_rfl) (by kernel_rfl) rfl (fun _ _ _ h => h) (Or.inl ⟨by rfl, ?_⟩) hHeld ?_
        rotate_left
        · intro w hSw; (try dsimp only at hSw); go_simp <;> with_reducible rfl
        simp only [Act.put, List.setIfInBounds_toArray, List.set_cons_zero, List.set_cons_succ]
        refine OrdF.one 24 11 rfl (by kernel_rfl) (by rfl) (fun K hK => ?_)
        go_simp
        refine (of_sz wr.drew L 7 I.q I.nt k ga ca cia I.κa aa xa E' _ _ HST.out.ls.drew.1 (by omega) (by omega) (by omega) hlt HBD.out.1.1 HBD.out.1.2).mono ?_
        rintro e w1 ⟨⟨x1, rfl, hp1⟩, hs1'⟩
        have hs1 : wr.Since wr.heap.size w1 := ⟨hs1'.os, hs1'.tape, hs1'.output, hs1'.size, hs1'.block⟩
        obtain ⟨hSt1, hK1⟩ := HST.out.since hs1
        have HSt1 := hid hSt1
        have HK1 := hid (HKK.out.trans hK1)
        have hl1 : L < w1.heap.size := hSt1.ls.lt
        have HS1 := And.intro ((hs1.cell (a := ⟨L, 10, none⟩) hL).trans HSW.out.1) (And.intro ((hs1.cell (a := ⟨L, 7, none⟩) hL).trans HSW.out.2.1) (And.intro ((hs1.cell (a := ⟨L, 8, none⟩) hL).trans HSW.out.2.2.1) (And.intro ((hs1.cell (a := ⟨L, 4, none⟩) hL).trans HSW.out.2.2.2.1) ((hs1.cell (a := ⟨L, 5, none⟩) hL).trans HSW.out.2.2.2.2))))
        refine hK _ _ (fun _ => HS1) ?_
        clear hK K hs1' hSt1 hK1 hHeld
        refine OrdF.one 24 18 rfl (by kernel_rfl) (by rfl) (fun K hK => ?_)
        go_simp
        refine (of_sz w1 L 4 I.q I.nw k gw cw ciw I.κw aw xw E' _ _ HSt1.out.ls (by omega) (by omega) (by omega) hlt HBD.out.2.1 HBD.out.2.2).mono ?_
        rintro e w2 ⟨⟨x2, rfl, hp2⟩, hs2⟩
        obtain ⟨hSt2, hK2⟩ := HSt1.out.since hs2
        have HSt2 := hid hSt2
        have HK2 := hid (HK1.out.trans hK2)
        have hl2 : L < w2.heap.size := hSt2.ls.lt
        have HS2 := And.intro ((hs2.cell (a := ⟨L, 10, none⟩) hl1).trans HS1.1) (And.intro ((hs2.cell (a := ⟨L, 7, none⟩) hl1).trans HS1.2.1) (And.intro ((hs2.cell (a := ⟨L, 8, none⟩) hl1).trans HS1.2.2.1) (And.intro ((hs2.cell (a := ⟨L, 4, none⟩) hl1).trans HS1.2.2.2.1) ((hs2.cell (a := ⟨L, 5, none⟩) hl1).trans HS1.2.2.2.2))))
        refine hK _ _ (fun _ => HS2) ?_
        clear hK K hSt2 hK2 HS1 hs1 hs2
        obtain ⟨y1, z1, rfl, hq1⟩ := hp1
        obtain ⟨y2, z2, rfl, hq2⟩ := hp2
        have HPA := hid (show PartV aa (sumTo (cfT I.κa I.nt) k) (cn I.κa k I.nt) (.slice y1 (cn I.κa k I.nt) z1) from ⟨y1, z1, rfl, hq1⟩)
        have HPW := hid (show PartV aw (sumTo (cfT I.κw I.nw) k) (cn I.κw k I.nw) (.slice y2 (cn I.κw k I.nw) z2) from ⟨y2, z2, rfl, hq2⟩)
        clear hq1 hq2
        refine OrdF.take 24 19 (v := ?_) rfl rfl (by kernel_rfl) (by kernel_rfl) (by kernel_rfl) (by kernel_rfl) rfl (fun _ _ _ h => h) (Or.inl ⟨by rfl, ?_⟩) HS2 ?_
        rotate_left
        · intro w hSw; (try dsimp only at hSw); go_simp <;> with_reducible rfl
        simp only [Act.put, List.setIfInBounds_toArray, List.set_cons_zero, List.set_cons_succ]
        refine OrdF.one 24 20 rfl (by kernel_rfl) (by rfl) (fun K hK => ?_)
        go_simp
        obtain ⟨wa, hwa, hla, hsa, hpa, hsz, hnews, hown2⟩ := boxq w2 L k cv av (cn I.κa k I.nt) z1 (cn I.κw k I.nw) z2 y1 y2 (ents A W k) HSt2.out.ls (by have := HSt2.out.ls.own 10 (by omega) (by omega); rw [HE.out.1] at this; exact this)
        rw [← hwa]
        have HWA := hid (And.intro hla hsa)
        have HOW := hid hown2
        have HNW := hid hnews
        have HSa := And.intro (hpa 10 _ HS2.1) (And.intro (hpa 7 _ HS2.2.1) (And.intro (hpa 8 _ HS2.2.2.1) (And.intro (hpa 4 _ HS2.2.2.2.1) (hpa 5 _ HS2.2.2.2.2))))
        refine hK _ _ (fun _ => HSa) ?_
        clear hK K hwa hla hsa hpa hnews hown2 HS2
        refine OrdF.one 24 21 rfl (by kernel_rfl) (by rfl) (fun K hK => ?_)
        refine wp_append_lies wa (.tmp 273) (.tmp 289) 35 rfl (L + 1) 57 i0 (.agg #[.slice none 0 0, .slice none 0 0, .slice none 0 0, .slice none 0 0, .int .u8 0]) 5 104 Try.underlying35 hi0 hz0 hz1 hz2 rfl (by decide) (.slice av k cv) k _ rfl HOW.out ⟨w2.heap.size, 0, none⟩ 1 1 (ent (.slice y1 (cn I.κa k I.nt) z1) (.slice y2 (cn I.κw k I.nw) z2)) rfl rfl HNW.out (ent_one _ _ _ _ _ _) (by omega) (by unfold maxLen; omega) (by omega) (by omega) (w2.heap.size + 1) hsz ?_
        intro g cap w3 hown3 hg3 hat hlt3
        have dL : some L ≠ (Value.slice av k cv).ownBlock := fun e => by have := (HOW.out.lt L e.symm).1; omega
        have HS3 := And.intro (hg3.cell HSa.1 dL) (And.intro (hg3.cell HSa.2.1 dL) (And.intro (hg3.cell HSa.2.2.1 dL) (And.intro (hg3.cell HSa.2.2.2.1 dL) (hg3.cell HSa.2.2.2.2 dL))))
        have r1 := HS3.1
        have r3 : w3.frozen? ⟨L, 10, none⟩ = false := by rw [World.frozen?_of_block (w := wa) (hg3.block L HWA.out.1.lt dL)]; exact HWA.out.1.frozen 10
        obtain ⟨hLf, hsf⟩ := HWA.out.1.field (i := 10) (by omega) (by omega) (w1 := w3) (by rw [HE.out.1]; exact hg3) hown3 (fun b hb => by
          simp only [Value.ownBlock, Option.some.injEq] at hb
          subst hb
          rcases hat with e | e
          · left; rw [HE.out.1]; exact e
          · right; omega)
        have hSn : Hid (S5 w L M nm E c G I aa aw (k + 1) (w3.setCell ⟨L, 10, none⟩ (.slice (some ⟨g, 0, none⟩) (k + 1) cap))) :=
          ⟨_, .slice (some ⟨g, 0, none⟩) (k + 1) cap, (fun j => if j = k then .slice y1 (cn I.κa k I.nt) z1 else A j), (fun j => if j = k then .slice y2 (cn I.κw k I.nw) z2 else W j), HSt2.out.step hLf (HWA.out.2.trans hsf), HK2.out.trans ((HWA.out.2.trans hsf).keep M), by
            rw [upd_same, ents_next], fun i hi => by rw [upd_other _ _ hi]; exact HE.out.2 i hi, fun j hj => by
            by_cases e : j = k
            · subst e; simp only [if_true]; exact ⟨HPA.out, HPW.out⟩
            · simp only [if_neg e]; exact HP.out j (by omega)⟩
        simp only [Act.put, List.setIfInBounds_toArray, List.set_cons_zero, List.set_cons_succ]
        refine hK _ _ (fun _ => HS3) ?_
        clear hK K hLf hsf hown3 hg3 hat HOW HNW HWA HST HKK HSt1 HK1 HSt2 HK2 HSa
        refine OrdF.one 24 22 rfl (by kernel_rfl) (by rfl) (fun K hK => ?_)
        go_simp
        refine hK _ _ (fun _ => HS3) ?_
        clear hK K
        refine OrdF.one 24 23 rfl (by kernel_rfl) (by rfl) (fun K hK => ?_)
        go_simp
        refine hK _ _ (fun _ => HS3) ?_
        clear hK K
        refine OrdF.one 24 24 rfl (by kernel_rfl) (by rfl) (fun K hK => ?_)
        go_simp
        refine hK _ _ (fun h => absurd rfl h) (OrdF.done (by kernel_rfl) (NoPanic.normal ?_) _)
        clear hK K r1 r3 HS3 HSW p10 p7 p8 p4 p5
        go_wp2
        go_roundg (I.q - (k + 1))
        case measure => go_light; omega
        case rel => go_light; exact ⟨k + 1, by omega, rfl, by go_num, hSn⟩
      · obtain rfl : k = I.q := by omega
        go_wp2
        go_meet
        exact hS
  case rest =>
  obtain ⟨E', v, A, W, hSt, hK, hE10, hEo, hP⟩ := hcut.out
  have p10 := hSt.ls.cellE (i := 10) (by omega) (by omega)
  rw [hE10] at p10
  have hfin := hid (HR.out _ E' v A W hSt hK hE10 hEo hP)
  clear hSt hK hE10 hEo hP hcut
  go_wp2
  exact hfin.out
end Go.Proofs.Qxb6600184a
