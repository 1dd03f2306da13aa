/-
  ZZNewLockSplit, ZZByLock, b1SameInts, b1SameLists, b1SameSplit.
-/
import Derived.Test.Qxb6600184aByAll
namespace Go.Proofs.Qxb6600184a
open Go.RowKit
set_option linter.unusedVariables false

/-- The rows of a new lockSplit: none. -/
def E0 (i : Nat) : Ent := if i = 10 then ⟨57, 5, .slice none 0 0, 0, []⟩ else ⟨3, 1, .slice none 0 0, 0, []⟩
theorem E0_types : TypesOk E0 := ⟨fun i h1 h2 => by unfold E0; rw [if_neg (by omega)]; exact ⟨rfl, rfl⟩, by unfold E0; exact ⟨rfl, rfl⟩⟩
theorem E0_v (i : Nat) : (E0 i).v = .slice none 0 0 := by unfold E0; split <;> rfl
theorem E0_own (w : World) (b i : Nat) : w.ownsRow b (E0 i).e (E0 i).sz (E0 i).v (E0 i).n (E0 i).xs := by unfold E0; split <;> exact World.ownsRow_nil _ _ _ _

theorem St.new (w : World) : St ((w.alloc (.map #[] 0)).alloc (.cells #[.int .i64 0, .map (some w.heap.size), .slice none 0 0, .slice none 0 0, .slice none 0 0, .slice none 0 0, .slice none 0 0, .slice none 0 0, .slice none 0 0, .slice none 0 0, .slice none 0 0] 54)) (w.heap.size + 1) w.heap.size 0 E0 0 (fun _ => none) := by
  have e1 : (w.alloc (.map #[] 0)).heap.size = w.heap.size + 1 := by simp
  refine ⟨⟨?_, fun i _ _ => E0_own _ _ i, fun i j _ _ _ _ _ k hk => by rw [E0_v] at hk; cases hk⟩, ?_, Nat.lt_succ_self _⟩
  · have h := World.rowIs_alloc (w.alloc (.map #[] 0)) #[.int .i64 0, .map (some w.heap.size), .slice none 0 0, .slice none 0 0, .slice none 0 0, .slice none 0 0, .slice none 0 0, .slice none 0 0, .slice none 0 0, .slice none 0 0, .slice none 0 0] 54 (lsCell (.int .i64 0) (.map (some w.heap.size)) E0) (fun i hi => by
      have hi' : i < 11 := hi
      unfold lsCell
      match i, hi' with
      | 0, _ => rfl
      | 1, _ => rfl
      | 2, _ | 3, _ | 4, _ | 5, _ | 6, _ | 7, _ | 8, _ | 9, _ | 10, _ => rw [E0_v]; rfl)
    rw [e1] at h
    exact h
  · exact (MapQ.made w).block (Go.Deep.blk_alloc_lt _ _ _ (by simp))

set_option maxHeartbeats 800000 in
theorem new_any (w : World) : Calls Try.prog 13 #[] w fun e w' => e = .returned (.pointer (some ⟨w.heap.size + 1, 0, none⟩)) ∧ St w' (w.heap.size + 1) w.heap.size 0 E0 0 (fun _ => none) ∧ w.Since w.heap.size w' := by
  have hmm := @run_makeMap Try.prog
  have HS := hid (St.new w)
  have hS := ((World.Since.refl w.heap.size w).alloc (Nat.le_refl _) (.map #[] 0)).alloc (by simp) (.cells #[.int .i64 0, .map (some w.heap.size), .slice none 0 0, .slice none 0 0, .slice none 0 0, .slice none 0 0, .slice none 0 0, .slice none 0 0, .slice none 0 0, .slice none 0 0, .slice none 0 0] 54)
  have HSS := hid hS
  clear hS
  go_enter Try.func13, Try.ntmps13
  go_wp2
  go_ret
  exact ⟨rfl, HS.out, HSS.out⟩

set_option maxHeartbeats 800000 in
theorem zzBy_any (w : World) (L M nm : Nat) (E : Nat → Ent) (c : Int) (G : ByteArray → Option (Int × Int)) (I : Ins) (F : I.Fit) (hin : I.In w M) (hst : St w L M nm E c G) (hty : TypesOk E) (hnm : nm ≤ 1048576) (hold : ∀ s a b, G s = some (a, b) → a ≤ c) (hc : 0 ≤ c ∧ c ≤ 900) :
    Calls Try.prog 15 #[.pointer (some ⟨L, 0, none⟩), .slice I.aa I.na I.ca, .slice I.aw I.nw I.cw, .slice I.al I.nw I.cl, .slice I.ax I.na I.cx] w (ByPost w L M nm E c G I) := by
  have H := hid (byLock_any w L M nm E c G I F hin hst hty hnm hold hc)
  unfold qV at H
  clear F hin hst hty hnm hold hc
  go_enter Try.func15, Try.ntmps15
  go_wp2_with fail
  refine Calls.mono H.out ?_
  rintro e w' ⟨E', nm', v, rfl, h1, h2, h3, h4, h5⟩
  have HP := hid (show ByPost w L M nm E c G I (.returned v) w' from ⟨E', nm', v, rfl, h1, h2, h3, h4, h5⟩)
  clear h1 h2 h3 h4 h5 H
  go_wp2
  go_ret
  exact HP.out

/-! ### the same -/
set_option maxHeartbeats 800000 in
theorem sameInts_any (w : World) (x y : Value) (l : List Int) (hl : l.length ≤ 1048576) (hx : IsL w x l) (hy : IsL w y l) : Calls Try.prog 25 #[x, y] w fun e w' => e = .returned (.bool true) ∧ w.Since w.heap.size w' := by
  obtain ⟨a, c, rfl, h1⟩ := hx
  obtain ⟨a2, c2, rfl, h2⟩ := hy
  go_enter Try.func25, Try.ntmps25
  go_wp2
  go_loopg [5] l.length (fun g s5 wr => ∃ k : Nat, k ≤ l.length ∧ g = l.length - k ∧ s5 = .int .i64 k ∧ w.Since w.heap.size wr)
  case atStart => exact ⟨0, Nat.zero_le _, rfl, rfl, World.Since.refl _ _⟩
  case round =>
    obtain ⟨k, hk, rfl, rfl, hS⟩ := hrel
    by_cases hlt : k < l.length
    · obtain ⟨b, off, rfl, hb, hc⟩ := h1 (by omega)
      obtain ⟨b2, off2, rfl, hb2, hc2⟩ := h2 (by omega)
      have hz : (k : Int) < (l.length : Int) := by omega
      have g1 := (hS.cell (a := ⟨b, off + k, none⟩) hb).trans (hc k hlt)
      have g2 := (hS.cell (a := ⟨b2, off2 + k, none⟩) hb2).trans (hc2 k hlt)
      generalize l.getD k 0 = z at g1 g2
      have hzz : (z != z) = false := by simp
      clear hc hc2 h1 h2
      go_wp2
      go_quiet (fail)
      go_wp2
      go_roundg (l.length - (k + 1))
      case measure => go_light; omega
      case rel => go_light; exact ⟨k + 1, by omega, rfl, by go_num, by first | exact hS | exact Since.drewN hS _ | exact hS.drew⟩
    · go_wp2
      go_ret
      exact ⟨rfl, hS⟩

/-- A slice of slices of int. -/
def IsLL (w : World) (v : Value) (q : Nat) (l : Nat → List Int) : Prop :=
  ∃ a c, v = .slice a q c ∧ (0 < q → ∃ b off, a = some ⟨b, off, none⟩ ∧ b < w.heap.size ∧ ∀ k, k < q → ∃ x, w.cell? ⟨b, off + k, none⟩ = some x ∧ IsL w x (l k))

theorem IsLL.since {w w' : World} {v : Value} {q : Nat} {l : Nat → List Int} {B : Nat} (h : IsLL w v q l) (hs : w.Since B w') (hB : w.heap.size ≤ B) : IsLL w' v q l := by
  obtain ⟨a, c, e, h1⟩ := h
  refine ⟨a, c, e, fun hn => ?_⟩
  obtain ⟨b, off, ea, hb, hc⟩ := h1 hn
  refine ⟨b, off, ea, Nat.lt_of_lt_of_le hb hs.size, fun k hk => ?_⟩
  obtain ⟨x, h2, h3⟩ := hc k hk
  exact ⟨x, (hs.cell (a := ⟨b, off + k, none⟩) (Nat.lt_of_lt_of_le hb hB)).trans h2, h3.since hs hB⟩

set_option maxHeartbeats 1600000 in
theorem sameLists_any (w : World) (x y : Value) (q : Nat) (l : Nat → List Int) (hq : q ≤ 1048576) (hl : ∀ k, k < q → (l k).length ≤ 1048576) (hx : IsLL w x q l) (hy : IsLL w y q l) : Calls Try.prog 27 #[x, y] w fun e w' => e = .returned (.bool true) ∧ w.Since w.heap.size w' := by
  obtain ⟨a, c, rfl, h1⟩ := hx
  obtain ⟨a2, c2, rfl, h2⟩ := hy
  have HL := hid hl
  clear hl
  go_enter Try.func27, Try.ntmps27
  go_wp2
  go_loopg [5] q (fun g s5 wr => ∃ k : Nat, k ≤ q ∧ g = q - k ∧ s5 = .int .i64 k ∧ w.Since w.heap.size wr)
  case atStart => exact ⟨0, Nat.zero_le _, rfl, rfl, World.Since.refl _ _⟩
  case round =>
    obtain ⟨k, hk, rfl, rfl, hS⟩ := hrel
    by_cases hlt : k < q
    · obtain ⟨b, off, rfl, hb, hc⟩ := h1 (by omega)
      obtain ⟨b2, off2, rfl, hb2, hc2⟩ := h2 (by omega)
      have hz : (k : Int) < (q : Int) := by omega
      obtain ⟨x, g1', i1⟩ := hc k hlt
      obtain ⟨y, g2', i2⟩ := hc2 k hlt
      have g1 := (hS.cell (a := ⟨b, off + k, none⟩) hb).trans g1'
      have g2 := (hS.cell (a := ⟨b2, off2 + k, none⟩) hb2).trans g2'
      have j1 := hid (i1.since hS (Nat.le_refl _))
      have j2 := hid (i2.since hS (Nat.le_refl _))
      have hbr := Nat.lt_of_lt_of_le hb hS.size
      have hbr2 := Nat.lt_of_lt_of_le hb2 hS.size
      clear hc hc2 h1 h2 i1 i2 g1' g2'
      go_wp2
      go_region_held3 (fun w' => w'.cell? ⟨b, off + k, none⟩ = some x ∧ w'.cell? ⟨b2, off2 + k, none⟩ = some y) (first | (simp only [World.cell?_drew]; exact ⟨g1, g2⟩) | exact ⟨m1, m2⟩)
        (first | (go_at_call 25; refine (sameInts_any wr.drew x y (l k) (HL.out k hlt) j1.out j2.out).mono ?_
                  rintro e w' ⟨rfl, hs'⟩
                  have hs2 : wr.Since wr.heap.size w' := ⟨hs'.os, hs'.tape, hs'.output, hs'.size, hs'.block⟩
                  have m1 := (hs2.cell (a := ⟨b, off + k, none⟩) hbr).trans g1
                  have m2 := (hs2.cell (a := ⟨b2, off2 + k, none⟩) hbr2).trans g2
                  have hSn := Since.step hS hs2
                  clear hs' hs2))
      clear m1 m2 g1 g2
      go_wp2
      go_roundg (q - (k + 1))
      case measure => go_light; omega
      case rel => go_light; exact ⟨k + 1, by omega, rfl, by go_num, hSn⟩
    · go_wp2
      go_ret
      exact ⟨rfl, hS⟩

set_option maxHeartbeats 800000 in
theorem sameSplit_any (w : World) (x1 x2 x3 y1 y2 y3 : Value) (q : Nat) (la lw : Nat → List Int) (r : List Int) (hq : q ≤ 1048576) (ha : ∀ k, k < q → (la k).length ≤ 1048576) (hw : ∀ k, k < q → (lw k).length ≤ 1048576) (hr : r.length ≤ 1048576)
    (a1 : IsLL w x1 q la) (a2 : IsLL w x2 q lw) (a3 : IsL w x3 r) (b1 : IsLL w y1 q la) (b2 : IsLL w y2 q lw) (b3 : IsL w y3 r) : Calls Try.prog 18 #[x1, x2, x3, y1, y2, y3] w fun e w' => e = .returned (.bool true) ∧ w.Since w.heap.size w' := by
  have H1 := hid (And.intro a1 b1)
  have H2 := hid (And.intro a2 b2)
  have H3 := hid (And.intro a3 b3)
  have HA := hid ha
  have HW := hid hw
  clear a1 a2 a3 b1 b2 b3 ha hw
  go_enter Try.func18, Try.ntmps18
  go_wp2_with fail
  refine (sameLists_any w x1 y1 q la hq HA.out H1.out.1 H1.out.2).mono ?_
  rintro e w1 ⟨rfl, hs1⟩
  go_wp2_with fail
  refine (sameLists_any w1 x2 y2 q lw hq HW.out (H2.out.1.since hs1 (Nat.le_refl _)) (H2.out.2.since hs1 (Nat.le_refl _))).mono ?_
  rintro e w2 ⟨rfl, hs2⟩
  go_wp2_with fail
  refine (sameInts_any w2 x3 y3 r hr ((H3.out.1.since hs1 (Nat.le_refl _)).since hs2 (Nat.le_refl _)) ((H3.out.2.since hs1 (Nat.le_refl _)).since hs2 (Nat.le_refl _))).mono ?_
  rintro e w3 ⟨rfl, hs3⟩
  go_wp2
  go_ret
  exact ⟨rfl, Since.step (Since.step hs1 hs2) hs3⟩
end Go.Proofs.Qxb6600184a
