/-
  FnByLockReuseAgreesWithFresh: her code, taken apart; what is carried from call to call.
-/
import Derived.Test.Qxb6600184aCopies
import Derived.Test.Qxb6600184aFlat
import Derived.Test.Qxb6600184aZZA
import Derived.Test.Qxb6600184aZZB
import Derived.Test.Qxb6600184aZZC
import Derived.Test.Qxb6600184aZZD
namespace Go.Proofs.Qxb6600184a
open Go.RowKit
set_option linter.unusedVariables false

/-- One split's arguments as they came in. -/
structure Side (w : World) (a1 a2 a3 a4 : Option Addr) (n1 n2 n3 n4 c1 c2 c3 c4 : Nat) (f1 f2 : Nat → Int) (N : Nat → ByteArray) (xl : Nat → Nat) (X : Nat → Nat → ByteArray) : Prop where
  m1 : n1 ≤ maxLen
  m2 : n2 ≤ maxLen
  m3 : n3 ≤ maxLen
  m4 : n4 ≤ maxLen
  z1 : a1 = none → n1 = 0 ∧ c1 = 0
  z2 : a2 = none → n2 = 0 ∧ c2 = 0
  z3 : a3 = none → n3 = 0 ∧ c3 = 0
  z4 : a4 = none → n4 = 0 ∧ c4 = 0
  i1 : IsInts w .i64 a1 n1 f1
  i2 : IsInts w .i64 a2 n2 f2
  i3 : InB w w.heap.size a3 n3 (fun i => .string (N i))
  i4 : XInZ w w.heap.size a4 n4 xl X
  k3 : ∀ i, i < n3 → (N i).size ≤ maxLen
  k4 : ∀ i, i < n4 → xl i ≤ maxLen
  k5 : ∀ i, i < n4 → ∀ r, r < xl i → (X i r).size ≤ maxLen

theorem zz_any (w : World) (a1 a2 a3 a4 a5 a6 a7 a8 : Option Addr) (n1 n2 n3 n4 n5 n6 n7 n8 c1 c2 c3 c4 c5 c6 c7 c8 : Nat) (f1 f2 f5 f6 : Nat → Int) (N1 N2 : Nat → ByteArray) (xl1 xl2 : Nat → Nat) (X1 X2 : Nat → Nat → ByteArray)
    (S1 : Side w a1 a2 a3 a4 n1 n2 n3 n4 c1 c2 c3 c4 f1 f2 N1 xl1 X1) (S2 : Side w a5 a6 a7 a8 n5 n6 n7 n8 c5 c6 c7 c8 f5 f6 N2 xl2 X2) :
    Calls Try.prog 17 #[.slice a1 n1 c1, .slice a2 n2 c2, .slice a3 n3 c3, .slice a4 n4 c4, .slice a5 n5 c5, .slice a6 n6 c6, .slice a7 n7 c7, .slice a8 n8 c8] w fun e w' => IsBool e ∧ w = w' := by
  refine zzA w w.heap.size a1 a2 a3 a4 a5 a6 a7 a8 n1 n2 n3 n4 n5 n6 n7 n8 c1 c2 c3 c4 c5 c6 c7 c8 N1 S1.m1 S1.m2 S1.m3 S1.k3 S1.i3 fun T hT => ?_
  refine zzB w w.heap.size T a1 a2 a3 a4 a5 a6 a7 a8 n1 n2 n3 n4 n5 n6 n7 n8 c1 c2 c3 c4 c5 c6 c7 c8 xl1 X1 hT S1.m4 S1.k4 S1.k5 S1.i4.xin fun T hT => ?_
  refine zzC w w.heap.size T a1 a2 a3 a4 a5 a6 a7 a8 n1 n2 n3 n4 n5 n6 n7 n8 c1 c2 c3 c4 c5 c6 c7 c8 N2 hT S2.m1 S2.m2 S2.m3 S2.k3 S2.i3 fun T hT => ?_
  exact zzD w w.heap.size T a1 a2 a3 a4 a5 a6 a7 a8 n1 n2 n3 n4 n5 n6 n7 n8 c1 c2 c3 c4 c5 c6 c7 c8 xl2 X2 hT S2.m4 S2.k4 S2.k5 S2.i4.xin

theorem side_splitB (w : World) (a1 a2 a3 a4 : Option Addr) (n1 n2 n3 n4 c1 c2 c3 c4 : Nat) (f1 f2 : Nat → Int) (N : Nat → ByteArray) (xl : Nat → Nat) (X : Nat → Nat → ByteArray) (S : Side w a1 a2 a3 a4 n1 n2 n3 n4 c1 c2 c3 c4 f1 f2 N xl X) :
    Calls Try.prog 9 #[.slice a1 n1 c1, .slice a2 n2 c2, .slice a3 n3 c3, .slice a4 n4 c4] w fun e w' => Sized e (n1 ≤ 4096 ∧ n2 ≤ 4096 ∧ n3 ≤ 4096 ∧ n4 ≤ 4096 ∧ pos xl n4 ≤ 4096) ∧ w = w' :=
  splitB_any w w.heap.size a1 a2 a3 a4 n1 n2 n3 n4 c1 c2 c3 c4 N xl X S.m1 S.m2 S.m3 S.m4 S.k4 S.k3 S.k5 S.i3 S.i4.xin

theorem InB.grow {w w' : World} {n : Nat} {a : Option Addr} {f : Nat → Value} (h : InB w w.heap.size a n f) (hs : w.Since w.heap.size w') : InB w' w'.heap.size a n f := (h.since hs).mono hs.size
theorem XIn.grow {w w' : World} {n : Nat} {a : Option Addr} {xl : Nat → Nat} {X : Nat → Nat → ByteArray} (h : XIn w w.heap.size a n xl X) (hs : w.Since w.heap.size w') : XIn w' w'.heap.size a n xl X := fun hn => by
  obtain ⟨b, off, e, hb, hc⟩ := h hn
  refine ⟨b, off, e, Nat.lt_of_lt_of_le hb hs.size, fun i hi => ?_⟩
  obtain ⟨a, c, h1, h2⟩ := hc i hi
  exact ⟨a, c, (hs.cell (a := ⟨b, off + i, none⟩) hb).trans h1, h2.grow hs⟩
theorem XInZ.grow {w w' : World} {n : Nat} {a : Option Addr} {xl : Nat → Nat} {X : Nat → Nat → ByteArray} (h : XInZ w w.heap.size a n xl X) (hs : w.Since w.heap.size w') : XInZ w' w'.heap.size a n xl X := fun hn => by
  obtain ⟨b, off, e, hb, hc⟩ := h hn
  refine ⟨b, off, e, Nat.lt_of_lt_of_le hb hs.size, fun i hi => ?_⟩
  obtain ⟨a, c, h1, h2, h3⟩ := hc i hi
  exact ⟨a, c, (hs.cell (a := ⟨b, off + i, none⟩) hb).trans h1, h2, h3.grow hs⟩

/-- The call returned a slice of n that reads as f. -/
def GotB (w w' : World) (n : Nat) (f : Nat → Value) (e : Ending) : Prop := (∃ a c, e = .returned (.slice a n c) ∧ InB w' w'.heap.size a n f) ∧ w.Since w.heap.size w'
theorem copyI (w : World) (a : Option Addr) (n c : Nat) (f : Nat → Int) (hn : n ≤ 4096) (hz : a = none → n = 0 ∧ c = 0) (h : IsInts w .i64 a n f) : Calls Try.prog 10 #[.slice a n c] w fun e w' => GotB w w' n (fun i => .int .i64 (f i)) e :=
  (copyInts_any w a n c f (by omega) hz h).mono fun e w' ⟨a', c', he, hi, hs⟩ => ⟨⟨a', c', he, hi⟩, hs⟩
theorem copyS (w : World) (a : Option Addr) (n c : Nat) (N : Nat → ByteArray) (hn : n ≤ 4096) (hz : a = none → n = 0 ∧ c = 0) (h : InB w w.heap.size a n (fun i => .string (N i))) : Calls Try.prog 11 #[.slice a n c] w fun e w' => GotB w w' n (fun i => .string (N i)) e :=
  (copyStrs_any w w.heap.size a n c N (Nat.le_refl _) (by omega) hz h).mono fun e w' ⟨⟨x, he, a', c', hx, _, h2⟩, hs⟩ => ⟨⟨a', c', by rw [he, hx], fun hn => by
    obtain ⟨b, off, e, _, hb, hc⟩ := h2 hn
    exact ⟨b, off, e, hb, hc⟩⟩, hs⟩
def GotX (w w' : World) (n : Nat) (xl : Nat → Nat) (X : Nat → Nat → ByteArray) (e : Ending) : Prop := (∃ a c, e = .returned (.slice a n c) ∧ XIn w' w'.heap.size a n xl X) ∧ w.Since w.heap.size w'
theorem copyX (w : World) (a : Option Addr) (n c : Nat) (xl : Nat → Nat) (X : Nat → Nat → ByteArray) (hn : n ≤ 4096) (hp : pos xl n ≤ 4096) (hz : a = none → n = 0 ∧ c = 0) (h : XInZ w w.heap.size a n xl X) : Calls Try.prog 12 #[.slice a n c] w fun e w' => GotX w w' n xl X e := by
  cases a with
  | none =>
    obtain ⟨rfl, rfl⟩ := hz rfl
    exact (copyLists_nil w).mono fun e w' ⟨he, hw⟩ => ⟨⟨none, 0, he, fun h => absurd h (by omega)⟩, hw ▸ World.Since.refl _ _⟩
  | some a =>
    refine (copyLists_some w w.heap.size a n c xl X (Nat.le_refl _) (by omega) (fun i hi => ?_) h).mono fun e w' ⟨⟨he, V, hV, hS⟩, hs⟩ => ⟨⟨_, n, he, fun hn => ⟨_, 0, rfl, hV.lt, fun i hi => ?_⟩⟩, hs⟩
    · have := pos_mono xl (show i + 1 ≤ n by omega)
      have e : pos xl (i + 1) = pos xl i + xl i := rfl
      omega
    · obtain ⟨a2, c2, e2, _, h2⟩ := hS i hi
      refine ⟨a2, c2, by rw [Nat.zero_add, hV.cell hi, e2], fun hn => ?_⟩
      obtain ⟨b, off, e, _, hb, hc⟩ := h2 hn
      exact ⟨b, off, e, hb, hc⟩

/-! ### from call to call -/
theorem cn_le (κ : Nat → Int) (k : Nat) : ∀ t, cn κ k t ≤ t
  | 0 => Nat.le_refl _
  | t + 1 => by
    have := cn_le κ k t
    unfold cn
    split <;> omega
theorem Ins.LA_len {I : Ins} (F : I.Fit) (k : Nat) : (I.LA k).length ≤ 4096 := by
  unfold Ins.LA
  rw [sel_len]
  exact Nat.le_trans (cn_le _ _ _) F.nt
theorem Ins.LW_len {I : Ins} (F : I.Fit) (k : Nat) : (I.LW k).length ≤ 4096 := by
  unfold Ins.LW
  rw [sel_len]
  exact Nat.le_trans (cn_le _ _ _) F.nw
theorem Ins.q_len {I : Ins} (F : I.Fit) : I.q ≤ 4096 := Nat.le_trans I.q_le F.nw
theorem Ins.In.mono {I : Ins} {w : World} {M M' : Nat} (h : I.In w M) (hM : M ≤ M') : I.In w M' :=
  ⟨h.hw.mono hM, h.ha.mono hM, h.hl.mono hM, fun hn => by
    obtain ⟨b, off, e, hb, hc⟩ := h.hx hn
    refine ⟨b, off, e, by omega, fun i hi => ?_⟩
    obtain ⟨a, c, h1, h2⟩ := hc i hi
    exact ⟨a, c, h1, h2.mono hM⟩⟩
theorem Since.low {B B' : Nat} {w w' : World} (h : w.Since B w') (hB : B' ≤ B) : w.Since B' w' := ⟨h.os, h.tape, h.output, h.size, fun j hj => h.block j (Nat.lt_of_lt_of_le hj hB)⟩

/-- Between the calls: the lockSplit, the arguments. -/
structure Mid (w0 w : World) (I1 I2 : Ins) (L M nm : Nat) (E : Nat → Ent) (c : Int) (G : ByteArray → Option (Int × Int)) : Prop where
  F1 : I1.Fit
  F2 : I2.Fit
  st : St w L M nm E c G
  ty : TypesOk E
  hnm : nm ≤ 900000
  old : ∀ s a b, G s = some (a, b) → a ≤ c
  in1 : I1.In w M
  in2 : I2.In w M
  hM : w0.heap.size ≤ M
  sn : w0.Since w0.heap.size w

theorem over_le {l : List ByteArray} {c : Int} {G : ByteArray → Option (Int × Int)} (h : ∀ s a b, G s = some (a, b) → a ≤ c) : ∀ s a b, over l (c + 1) G s = some (a, b) → a ≤ c + 1 := by
  intro s a b e
  unfold over at e
  split at e
  · have := (Prod.mk.inj (Option.some.inj e)).1; omega
  · have := h s a b e; omega

/-- Behind one split with the lockSplit of Mid. -/
def MidPost (w0 w : World) (I1 I2 I : Ins) (L M nm : Nat) (E : Nat → Ent) (c : Int) (e : Ending) (w' : World) : Prop :=
  ∃ E' nm' G' v, e = .returned v ∧ (∀ B, nm + 4096 ≤ B → B ≤ 900000 → nm' ≤ B ∧ Mid w0 w' I1 I2 L M nm' E' (c + 1) G') ∧ Keep w w' L M E E' ∧ QsIs w' v I.q I.LA I.LW

theorem Mid.call {w0 w : World} {I1 I2 : Ins} {L M nm : Nat} {E : Nat → Ent} {c : Int} {G : ByteArray → Option (Int × Int)} (h : Mid w0 w I1 I2 L M nm E c G) (hc : 0 ≤ c ∧ c ≤ 900) (I : Ins) (F : I.Fit) (hI : I.In w M) :
    Calls Try.prog 15 #[.pointer (some ⟨L, 0, none⟩), .slice I.aa I.na I.ca, .slice I.aw I.nw I.cw, .slice I.al I.nw I.cl, .slice I.ax I.na I.cx] w (MidPost w0 w I1 I2 I L M nm E c) := by
  refine (zzBy_any w L M nm E c G I F hI h.st h.ty (Nat.le_trans h.hnm (by omega)) h.old hc).mono ?_
  rintro e w' ⟨E', nm', v, he, h1, h2, h3, h4, h5⟩
  have hb := h2.below h.st
  refine ⟨E', nm', _, v, he, fun B hB hB2 => ⟨by have := F.nw; omega, h.F1, h.F2, h1, h4, by have := F.nw; omega, over_le h.old, h.in1.since hb, h.in2.since hb, h.hM, h.sn.trans (Since.low hb h.hM)⟩, h2, h5⟩
theorem Mid.later {w0 w w' : World} {I1 I2 : Ins} {L M nm : Nat} {E : Nat → Ent} {c : Int} {G : ByteArray → Option (Int × Int)} (h : Mid w0 w I1 I2 L M nm E c G) (hs : w.Since w.heap.size w') : Mid w0 w' I1 I2 L M nm E c G ∧ Keep w w' L M E E := by
  obtain ⟨h1, h2⟩ := h.st.since hs
  have hb := h2.below h.st
  exact ⟨⟨h.F1, h.F2, h1, h.ty, h.hnm, h.old, h.in1.since hb, h.in2.since hb, h.hM, h.sn.trans (Since.low hb h.hM)⟩, h2⟩

/-- Three rows of one's own: the split of I. -/
def Rs (B : Nat) (w : World) (x1 x2 x3 : Value) (I : Ins) : Prop := IsLLF B w x1 I.q I.LA ∧ IsLLF B w x2 I.q I.LW ∧ IsLF B w x3 (List.replicate I.q 0)
theorem IsLLF.since {B : Nat} {w w' : World} {v : Value} {q : Nat} {l : Nat → List Int} (h : IsLLF B w v q l) (hs : w.Since w.heap.size w') : IsLLF B w' v q l := by
  obtain ⟨a, c, e, h1⟩ := h
  refine ⟨a, c, e, fun hn => ?_⟩
  obtain ⟨b, off, ea, hB, hb, hc⟩ := h1 hn
  refine ⟨b, off, ea, hB, Nat.lt_of_lt_of_le hb hs.size, fun j hj => ?_⟩
  obtain ⟨x, h2, h3⟩ := hc j hj
  exact ⟨x, (hs.cell (a := ⟨b, off + j, none⟩) hb).trans h2, h3.since hs⟩
theorem Rs.since {B : Nat} {w w' : World} {x1 x2 x3 : Value} {I : Ins} (h : Rs B w x1 x2 x3 I) (hs : w.Since w.heap.size w') : Rs B w' x1 x2 x3 I := ⟨h.1.since hs, h.2.1.since hs, h.2.2.since hs⟩
theorem Rs.keep {B L M : Nat} {w w' : World} {E E' : Nat → Ent} {x1 x2 x3 : Value} {I : Ins} (h : Rs B w x1 x2 x3 I) (k : Keep w w' L M E E') (hL : L < B) (hM : M < B) (hE : ∀ i b, 2 ≤ i → i < 11 → (E i).v.ownBlock = some b → b < B) : Rs B w' x1 x2 x3 I := ⟨h.1.keep k hL hM hE, h.2.1.keep k hL hM hE, h.2.2.keep k hL hM hE⟩
theorem flatRs (w : World) (v : Value) (I : Ins) (F : I.Fit) (h : QsIs w v I.q I.LA I.LW) : Calls Try.prog 14 #[v] w fun e w' => (∃ x1 x2 x3, e = .returned (.tuple #[x1, x2, x3]) ∧ Rs w.heap.size w' x1 x2 x3 I) ∧ w.Since w.heap.size w' :=
  flat_any w v I.q I.LA I.LW (Ins.q_len F) (fun k _ => Ins.LA_len F k) (fun k _ => Ins.LW_len F k) h
theorem sameRs {B B' : Nat} (w : World) (x1 x2 x3 y1 y2 y3 : Value) (I : Ins) (F : I.Fit) (h : Rs B w x1 x2 x3 I) (k : Rs B' w y1 y2 y3 I) : Calls Try.prog 18 #[x1, x2, x3, y1, y2, y3] w fun e w' => e = .returned (.bool true) ∧ w.Since w.heap.size w' := by
  have hq := Ins.q_len F
  exact sameSplit_any w x1 x2 x3 y1 y2 y3 I.q I.LA I.LW _ (by omega) (fun k _ => Nat.le_trans (Ins.LA_len F k) (by omega)) (fun k _ => Nat.le_trans (Ins.LW_len F k) (by omega)) (by rw [List.length_replicate]; omega) h.1.isLL h.2.1.isLL h.2.2.isL k.1.isLL k.2.1.isLL k.2.2.isL

/-- A fresh split. -/
theorem fresh_call (wn w1 : World) (I : Ins) (F : I.Fit) (hI : I.In wn wn.heap.size) (h : St w1 (wn.heap.size + 1) wn.heap.size 0 E0 0 (fun _ => none)) (hs : wn.Since wn.heap.size w1) :
    Calls Try.prog 15 #[.pointer (some ⟨wn.heap.size + 1, 0, none⟩), .slice I.aa I.na I.ca, .slice I.aw I.nw I.cw, .slice I.al I.nw I.cl, .slice I.ax I.na I.cx] w1 fun e w' => (∃ v, e = .returned v ∧ QsIs w' v I.q I.LA I.LW) ∧ wn.Since wn.heap.size w' := by
  refine (zzBy_any w1 (wn.heap.size + 1) wn.heap.size 0 E0 0 (fun _ => none) I F (hI.since hs) h E0_types (by omega) (fun s a b e => by cases e) ⟨by omega, by omega⟩).mono ?_
  rintro e w' ⟨E', nm', v, he, h1, h2, h3, h4, h5⟩
  exact ⟨⟨v, he, h5⟩, hs.trans (h2.below h)⟩

/-! ### her code -/
def hdZ : Code → Code
  | .seq a _ => a
  | c => c
noncomputable def lC : Nat → Code
  | 0 => Try.f4.body.getD .skip
  | n + 1 => tlZ (lC n)

/-- She says true, and whatever was is as it was. -/
def LawPost (w0 : World) (e : Ending) (w' : World) : Prop := e = .returned (.bool true) ∧ w0.Since w0.heap.size w'

set_option maxRecDepth 1000000 in
/-- From code C on she says true. -/
def FromL (C : Code) (w0 w : World) (s0 s1 s2 s3 s4 s5 s6 s7 s17 s18 s19 s20 s21 s22 s23 s24 s25 s26 s27 s28 s29 : Value) : Prop := ∀ u8 u9 u10 u11 u12 u13 u14 u15 u16 u30 u31 u32 u33 u34 u35 u36 u37 u38 u39 u40 u41 u42 u43 u44 u45 u46 u47 u48 u49 u50 u51 u52 u53 u54 u55 u56 u57 u58 u59 u60 u61 u62 u63 u64 u65 u66 u67 u68 u69 u70 u71 u72 u73 u74 u75 u76 u77 u78 u79 u80 u81 u82 u83 u84 u85 u86 u87 u88 u89 u90 u91 u92 u93 u94 u95 u96 u97 u98 u99 u100 u101 u102 u103 u104 u105 u106 u107 u108 u109 u110 u111 u112 u113 u114 u115 u116 u117 u118 u119 u120 u121 u122 u123 u124 u125 u126 u127 u128 u129 u130 u131 u132 u133 u134 u135 u136 u137 u138 u139 u140 u141 u142 u143 u144 u145 u146 u147 u148 u149 u150 u151 u152 u153 u154 u155 u156 u157 u158 : Value, ∀ K : Act → World → Prop, (∀ a w, (tlZ C).wp Try.prog (bodyPost Try.prog Try.f4 (LawPost w0)) a w → K a w) → (hdZ C).wp Try.prog (Exit.then K (bodyPost Try.prog Try.f4 (LawPost w0))) ⟨List.toArray (s0 :: s1 :: s2 :: s3 :: s4 :: s5 :: s6 :: s7 :: u8 :: u9 :: u10 :: u11 :: u12 :: u13 :: u14 :: u15 :: u16 :: s17 :: s18 :: s19 :: s20 :: s21 :: s22 :: s23 :: s24 :: s25 :: s26 :: s27 :: s28 :: s29 :: u30 :: u31 :: u32 :: u33 :: u34 :: u35 :: u36 :: u37 :: u38 :: u39 :: u40 :: u41 :: u42 :: u43 :: u44 :: u45 :: u46 :: u47 :: u48 :: u49 :: u50 :: u51 :: u52 :: u53 :: u54 :: u55 :: u56 :: u57 :: u58 :: u59 :: u60 :: u61 :: u62 :: u63 :: u64 :: u65 :: u66 :: u67 :: u68 :: u69 :: u70 :: u71 :: u72 :: u73 :: u74 :: u75 :: u76 :: u77 :: u78 :: u79 :: u80 :: u81 :: u82 :: u83 :: u84 :: u85 :: u86 :: u87 :: u88 :: u89 :: u90 :: u91 :: u92 :: u93 :: u94 :: u95 :: u96 :: u97 :: u98 :: u99 :: u100 :: u101 :: u102 :: u103 :: u104 :: u105 :: u106 :: u107 :: u108 :: u109 :: u110 :: u111 :: u112 :: u113 :: u114 :: u115 :: u116 :: u117 :: u118 :: u119 :: u120 :: u121 :: u122 :: u123 :: u124 :: u125 :: u126 :: u127 :: u128 :: u129 :: u130 :: u131 :: u132 :: u133 :: u134 :: u135 :: u136 :: u137 :: u138 :: u139 :: u140 :: u141 :: u142 :: u143 :: u144 :: u145 :: u146 :: u147 :: u148 :: u149 :: u150 :: u151 :: u152 :: u153 :: u154 :: u155 :: u156 :: u157 :: u158 :: []), []⟩ w
end Go.Proofs.Qxb6600184a
