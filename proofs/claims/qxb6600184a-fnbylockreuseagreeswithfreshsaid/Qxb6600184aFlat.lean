/-
  ZZQueuesFlat.
-/
import Derived.Test.Qxb6600184aSmall
namespace Go.Proofs.Qxb6600184a
open Go.RowKit
set_option linter.unusedVariables false

theorem Try.info22 : (Try.prog.info? 22).map (fun i => (i.zero, i.size, i.bytes)) = some (some (.slice none 0 0), 1, 24) := by kernel_rfl

/-- Numbers as values. -/
def vl (l : List Int) : List Value := l.map (Value.int .i64)
theorem vl_len (l : List Int) : (vl l).length = l.length := by simp [vl]
theorem vl_one {l : List Int} : ∀ u ∈ vl l, u.oneCell' = true := by
  intro u hu
  simp only [vl, List.mem_map] at hu
  obtain ⟨i, _, rfl⟩ := hu
  rfl

theorem append_none (w : World) (base : Nat) (ty : TypeId) (i : TypeInfo) (hi : Try.prog.info? 3 = some i) (v : Value) (n c : Nat) (xs : List Value) (hown : w.ownsRow base 3 1 v n xs) :
    (Builtin.append_ #[22, 22] ty #[v, .slice none 0 c]).run Try.prog w = .ok v w := by
  rcases hown.2 with ⟨rfl, rfl⟩ | ⟨g, cap, cur, rfl, _, _, hnc, _⟩
  · simp [Builtin.append_, run_underlying Try.underlying22, sizeOf, typeInfo, hi, Builtin.lenOf, Builtin.firstCells]
  · simp [Builtin.append_, run_underlying Try.underlying22, sizeOf, typeInfo, hi, Builtin.lenOf, Builtin.firstCells, hnc, storeCells]

/-- append(v, x...) onto an empty row of one's own. -/
theorem wpList_copyL {w : World} {ops : Array Oper} {rest : List Oper} {o : Oper} {a : Act} {Q : Exit → Act → World → Prop} (hgd : o.guard = none) (s x : Operand)
    (ho : o.op = .call { callee := .builtin .append, args := #[s, x], argTypes := #[22, 22] }) (base : Nat) (v xv : Value) (l : List Int) (hs : a.eval s = v) (hx : a.eval x = xv) (hown : w.ownsRow base 3 1 v 0 []) (hL : IsL w xv l) (hl : l.length ≤ 1048576) (hbase : base ≤ w.heap.size)
    (h : ∀ v' w', w'.ownsRow base 3 1 v' l.length (vl l) → w.grownBy w' v.ownBlock → wpList Try.prog ops Q rest (a.put o.dst v') w') : wpList Try.prog ops Q (o :: rest) a w := by
  obtain ⟨i0, hi, hz0, hz1, hz2⟩ := info_parts Try.info3
  obtain ⟨ad, c, rfl, h1⟩ := hL
  cases ad with
  | none =>
    have hl0 : l = [] := by
      cases l with
      | nil => rfl
      | cons z r => obtain ⟨b, off, e, _⟩ := h1 (by simp); cases e
    subst hl0
    refine wpList_plain hgd fun K hK => ?_
    have hr := append_none w base o.type i0 hi v 0 c [] hown
    unfold Oper.wp execOp
    simp only [ho, resolve, invoke, builtin, Sem.run_bind, Sem.run_pure, Result.andThen_ok, List.map_toArray, List.map_cons, List.map_nil, hs, hx, List.length_nil, hr]
    exact hK _ _ (h v w hown ⟨rfl, rfl, rfl, Nat.le_refl _, fun _ _ _ => rfl⟩)
  | some ad =>
    refine wpList_append_own w hgd s x 22 ho base 3 i0 (.int .i64 0) 1 8 Try.underlying22 hi hz0 hz1 hz2 rfl (by decide) v 0 [] hs hown ad l.length c (vl l) hx (by rw [vl_len, Nat.mul_one]) (fun j u hu => ?_) vl_one (by unfold maxLen; omega) (by omega) hbase (fun v' w' h2 h3 _ => h v' w' (by simpa using h2) h3)
    have hj : j < l.length := by have := (List.getElem?_eq_some_iff.1 hu).1; rwa [vl_len] at this
    obtain ⟨b, off, e, _, hc⟩ := h1 (by omega)
    obtain rfl := Option.some.inj e
    rw [Addr.add_lit, hc j hj]
    simp [vl, hj] at hu
    simp [List.getD, hj, hu]

/-- A slice that reads as l, in a block from B on. -/
def IsLF (B : Nat) (w : World) (x : Value) (l : List Int) : Prop :=
  ∃ a c, x = .slice a l.length c ∧ (0 < l.length → ∃ b off, a = some ⟨b, off, none⟩ ∧ B ≤ b ∧ b < w.heap.size ∧ ∀ i, i < l.length → w.cell? ⟨b, off + i, none⟩ = some (.int .i64 (l.getD i 0)))

theorem IsLF.isL {B : Nat} {w : World} {x : Value} {l : List Int} (h : IsLF B w x l) : IsL w x l := by
  obtain ⟨a, c, e, h1⟩ := h
  refine ⟨a, c, e, fun hn => ?_⟩
  obtain ⟨b, off, ea, _, hb, hc⟩ := h1 hn
  exact ⟨b, off, ea, hb, hc⟩
theorem IsLF.since {B : Nat} {w w' : World} {x : Value} {l : List Int} (h : IsLF B w x l) (hs : w.Since w.heap.size w') : IsLF B w' x l := by
  obtain ⟨a, c, e, h1⟩ := h
  refine ⟨a, c, e, fun hn => ?_⟩
  obtain ⟨b, off, ea, hB, hb, hc⟩ := h1 hn
  exact ⟨b, off, ea, hB, Nat.lt_of_lt_of_le hb hs.size, fun i hi => (hs.cell (a := ⟨b, off + i, none⟩) hb).trans (hc i hi)⟩
theorem IsLF.set {B g o : Nat} {w : World} {x y : Value} {l : List Int} (h : IsLF B w x l) (hg : g < B) : IsLF B (w.setCell ⟨g, o, none⟩ y) x l := by
  obtain ⟨a, c, e, h1⟩ := h
  refine ⟨a, c, e, fun hn => ?_⟩
  obtain ⟨b, off, ea, hB, hb, hc⟩ := h1 hn
  exact ⟨b, off, ea, hB, by simpa using hb, fun i hi => (World.cell?_of_block (a := ⟨b, off + i, none⟩) (blk_set w ⟨g, o, none⟩ y b (by show b ≠ g; omega))).trans (hc i hi)⟩
theorem IsLF.of_row {B : Nat} {w : World} {v : Value} {l : List Int} (h : w.ownsRow B 3 1 v l.length (vl l)) : IsLF B w v l := by
  rcases h.2 with ⟨rfl, e⟩ | ⟨g, cap, cur, rfl, hb, hg, hle, hmx, _⟩
  · exact ⟨none, 0, by rw [e], fun h => absurd h (by omega)⟩
  · refine ⟨_, cap, rfl, fun _ => ⟨g, 0, rfl, hb, (h.lt g rfl).2, fun i hi => ?_⟩⟩
    rw [Nat.zero_add]
    have := (ownsRow_read h (j := i) (x := .int .i64 (l.getD i 0)) (by simp [vl, hi, List.getD])).1
    exact this

/-- A slice of slices of int, all in blocks from B on. -/
def IsLLF (B : Nat) (w : World) (v : Value) (q : Nat) (l : Nat → List Int) : Prop :=
  ∃ a c, v = .slice a q c ∧ (0 < q → ∃ b off, a = some ⟨b, off, none⟩ ∧ B ≤ b ∧ b < w.heap.size ∧ ∀ k, k < q → ∃ x, w.cell? ⟨b, off + k, none⟩ = some x ∧ IsLF B w x (l k))
theorem IsLLF.isLL {B : Nat} {w : World} {v : Value} {q : Nat} {l : Nat → List Int} (h : IsLLF B w v q l) : IsLL w v q l := by
  obtain ⟨a, c, e, h1⟩ := h
  refine ⟨a, c, e, fun hn => ?_⟩
  obtain ⟨b, off, ea, _, hb, hc⟩ := h1 hn
  refine ⟨b, off, ea, hb, fun k hk => ?_⟩
  obtain ⟨x, h2, h3⟩ := hc k hk
  exact ⟨x, h2, h3.isL⟩
theorem IsLF.low {B B' : Nat} {w : World} {x : Value} {l : List Int} (h : IsLF B w x l) (hB : B' ≤ B) : IsLF B' w x l := by
  obtain ⟨a, c, e, h1⟩ := h
  refine ⟨a, c, e, fun hn => ?_⟩
  obtain ⟨b, off, ea, hb, r⟩ := h1 hn
  exact ⟨b, off, ea, by omega, r⟩
/-- What lies in blocks from B on is none of the lockSplit's. -/
theorem IsLF.keep {B L M : Nat} {w w' : World} {E E' : Nat → Ent} {x : Value} {l : List Int} (h : IsLF B w x l) (k : Keep w w' L M E E') (hL : L < B) (hM : M < B) (hE : ∀ i b, 2 ≤ i → i < 11 → (E i).v.ownBlock = some b → b < B) : IsLF B w' x l := by
  obtain ⟨a, c, e, h1⟩ := h
  refine ⟨a, c, e, fun hn => ?_⟩
  obtain ⟨b, off, ea, hB, hb, hc⟩ := h1 hn
  have hbk := k.block b hb (by omega) (by omega) (fun i i1 i2 e => by have := hE i b i1 i2 e; omega)
  exact ⟨b, off, ea, hB, Nat.lt_of_lt_of_le hb k.size, fun i hi => (World.cell?_of_block (a := ⟨b, off + i, none⟩) hbk).trans (hc i hi)⟩
theorem IsLLF.keep {B L M : Nat} {w w' : World} {E E' : Nat → Ent} {v : Value} {q : Nat} {l : Nat → List Int} (h : IsLLF B w v q l) (k : Keep w w' L M E E') (hL : L < B) (hM : M < B) (hE : ∀ i b, 2 ≤ i → i < 11 → (E i).v.ownBlock = some b → b < B) : IsLLF B w' v q l := by
  obtain ⟨a, c, e, h1⟩ := h
  refine ⟨a, c, e, fun hn => ?_⟩
  obtain ⟨b, off, ea, hB, hb, hc⟩ := h1 hn
  have hbk := k.block b hb (by omega) (by omega) (fun i i1 i2 e => by have := hE i b i1 i2 e; omega)
  refine ⟨b, off, ea, hB, Nat.lt_of_lt_of_le hb k.size, fun j hj => ?_⟩
  obtain ⟨x, h2, h3⟩ := hc j hj
  exact ⟨x, (World.cell?_of_block (a := ⟨b, off + j, none⟩) hbk).trans h2, h3.keep k hL hM hE⟩

/-- The three rows under construction: ka active lists copied, kw waiting ones. -/
structure FlatSt (w wr : World) (q : Nat) (LA LW : Nat → List Int) (ka kw : Nat) : Prop where
  since : w.Since w.heap.size wr
  size : w.heap.size + 3 ≤ wr.heap.size
  ex : ∃ A W : Nat → Value, wr.rowIs w.heap.size 22 q A ∧ wr.rowIs (w.heap.size + 1) 22 q W ∧ wr.rowIs (w.heap.size + 2) 3 q (fun _ => .int .i64 0) ∧ (∀ j, j < ka → IsLF (w.heap.size + 3) wr (A j) (LA j)) ∧ ∀ j, j < kw → IsLF (w.heap.size + 3) wr (W j) (LW j)

theorem FlatSt.later {w wr w1 : World} {q ka kw : Nat} {LA LW : Nat → List Int} (h : FlatSt w wr q LA LW ka kw) (hs : wr.Since wr.heap.size w1) : FlatSt w w1 q LA LW ka kw := by
  obtain ⟨A, W, r1, r2, r3, hA, hW⟩ := h.ex
  have hz := h.size
  exact ⟨Since.step h.since hs, Nat.le_trans h.size hs.size, A, W, r1.of_block (hs.block _ (by omega)), r2.of_block (hs.block _ (by omega)), r3.of_block (hs.block _ (by omega)), fun j hj => (hA j hj).since hs, fun j hj => (hW j hj).since hs⟩

theorem FlatSt.cells {w wr : World} {q ka kw : Nat} {LA LW : Nat → List Int} (h : FlatSt w wr q LA LW ka kw) {k : Nat} (hk : k < q) : (∃ x, wr.cell? ⟨w.heap.size, k, none⟩ = some x) ∧ (∃ x, wr.cell? ⟨w.heap.size + 1, k, none⟩ = some x) ∧ wr.cell? ⟨w.heap.size + 2, k, none⟩ = some (.int .i64 0) ∧
    wr.frozen? ⟨w.heap.size, k, none⟩ = false ∧ wr.frozen? ⟨w.heap.size + 1, k, none⟩ = false ∧ wr.frozen? ⟨w.heap.size + 2, k, none⟩ = false := by
  obtain ⟨A, W, r1, r2, r3, _, _⟩ := h.ex
  exact ⟨⟨_, r1.cell hk⟩, ⟨_, r2.cell hk⟩, r3.cell hk, r1.frozen k, r2.frozen k, r3.frozen k⟩

theorem FlatSt.stepA {w wr : World} {q ka kw : Nat} {LA LW : Nat → List Int} {v : Value} (h : FlatSt w wr q LA LW ka kw) (hv : IsLF (w.heap.size + 3) wr v (LA ka)) : FlatSt w (wr.setCell ⟨w.heap.size, ka, none⟩ v) q LA LW (ka + 1) kw := by
  obtain ⟨A, W, r1, r2, r3, hA, hW⟩ := h.ex
  refine ⟨h.since.setCell (Nat.le_refl _) _, by simpa using h.size, _, W, r1.set ka v, r2.setOther (by show w.heap.size + 1 ≠ w.heap.size; omega) v, r3.setOther (by show w.heap.size + 2 ≠ w.heap.size; omega) v, fun j hj => ?_, fun j hj => (hW j hj).set (by omega)⟩
  by_cases e : j = ka
  · subst e; simp only [if_true]; exact hv.set (by omega)
  · simp only [if_neg e]; exact (hA j (by omega)).set (by omega)

theorem FlatSt.stepW {w wr : World} {q ka kw : Nat} {LA LW : Nat → List Int} {v : Value} (h : FlatSt w wr q LA LW ka kw) (hv : IsLF (w.heap.size + 3) wr v (LW kw)) : FlatSt w (wr.setCell ⟨w.heap.size + 1, kw, none⟩ v) q LA LW ka (kw + 1) := by
  obtain ⟨A, W, r1, r2, r3, hA, hW⟩ := h.ex
  refine ⟨h.since.setCell (by show w.heap.size ≤ w.heap.size + 1; omega) _, by simpa using h.size, A, _, r1.setOther (by show w.heap.size ≠ w.heap.size + 1; omega) v, r2.set kw v, r3.setOther (by show w.heap.size + 2 ≠ w.heap.size + 1; omega) v, fun j hj => (hA j hj).set (by omega), fun j hj => ?_⟩
  by_cases e : j = kw
  · subst e; simp only [if_true]; exact hv.set (by omega)
  · simp only [if_neg e]; exact (hW j (by omega)).set (by omega)

theorem FlatSt.stepR {w wr : World} {q ka kw k : Nat} {LA LW : Nat → List Int} (h : FlatSt w wr q LA LW ka kw) : FlatSt w (wr.setCell ⟨w.heap.size + 2, k, none⟩ (.int .i64 0)) q LA LW ka kw := by
  obtain ⟨A, W, r1, r2, r3, hA, hW⟩ := h.ex
  refine ⟨h.since.setCell (by show w.heap.size ≤ w.heap.size + 2; omega) _, by simpa using h.size, A, W, r1.setOther (by show w.heap.size ≠ w.heap.size + 2; omega) _, r2.setOther (by show w.heap.size + 1 ≠ w.heap.size + 2; omega) _, (r3.set k _).congr (fun j _ => by split <;> rfl), fun j hj => (hA j hj).set (by omega), fun j hj => (hW j hj).set (by omega)⟩

set_option maxHeartbeats 3200000 in
theorem flat_any (w : World) (v : Value) (q : Nat) (LA LW : Nat → List Int) (hq : q ≤ 4096) (ha : ∀ k, k < q → (LA k).length ≤ 4096) (hw : ∀ k, k < q → (LW k).length ≤ 4096) (h : QsIs w v q LA LW) :
    Calls Try.prog 14 #[v] w fun e w' => (∃ x1 x2 x3, e = .returned (.tuple #[x1, x2, x3]) ∧ IsLLF w.heap.size w' x1 q LA ∧ IsLLF w.heap.size w' x2 q LW ∧ IsLF w.heap.size w' x3 (List.replicate q 0)) ∧ w.Since w.heap.size w' := by
  obtain ⟨a, c, rfl, h1⟩ := h
  have m1 := run_make_row' (P := Try.prog) 32 22 (.slice none 0 0) 24 Try.underlying32 Try.info22 rfl .i64 .i64 q (by omega) (by omega)
  have m2 := run_make_row' (P := Try.prog) 22 3 (.int .i64 0) 8 Try.underlying22 Try.info3 rfl .i64 .i64 q (by omega) (by omega)
  have HA := hid ha
  have HW := hid hw
  have H1 := hid h1
  have HS0 : Hid (FlatSt w (((w.alloc (.cells (madeCells #[.slice none 0 0] q) 22)).alloc (.cells (madeCells #[.slice none 0 0] q) 22)).alloc (.cells (madeCells #[.int .i64 0] q) 3)) q LA LW 0 0) := by
    have s1 := (World.Since.refl w.heap.size w).alloc (Nat.le_refl _) (.cells (madeCells #[.slice none 0 0] q) 22)
    have s2 := s1.alloc (by simp) (.cells (madeCells #[.slice none 0 0] q) 22)
    have r1 := World.rowIs_made w (.slice none 0 0) q 22
    have r2 := World.rowIs_made (w.alloc (.cells (madeCells #[.slice none 0 0] q) 22)) (.slice none 0 0) q 22
    have r3 := World.rowIs_made ((w.alloc (.cells (madeCells #[.slice none 0 0] q) 22)).alloc (.cells (madeCells #[.slice none 0 0] q) 22)) (.int .i64 0) q 3
    refine ⟨s2.alloc (by simp; omega) _, by simp, fun _ => .slice none 0 0, fun _ => .slice none 0 0, (r1.alloc _).alloc _, ?_, ?_, (fun j hj => absurd hj (by omega)), fun j hj => absurd hj (by omega)⟩
    · have := r2.alloc (.cells (madeCells #[.int .i64 0] q) 3); simpa using this
    · simpa using r3
  clear ha hw h1
  go_enter Try.func14, Try.ntmps14
  go_wp2
  clear m1 m2
  generalize ((w.alloc (.cells (madeCells #[.slice none 0 0] q) 22)).alloc (.cells (madeCells #[.slice none 0 0] q) 22)).alloc (.cells (madeCells #[.int .i64 0] q) 3) = w0 at HS0 ⊢
  go_loopg [5] q (fun g s5 wr => ∃ k : Nat, k ≤ q ∧ g = q - k ∧ s5 = .int .i64 k ∧ Hid (FlatSt w wr q LA LW k k))
  case atStart => exact ⟨0, Nat.zero_le _, rfl, rfl, HS0⟩
  case round =>
    obtain ⟨k, hk, rfl, rfl, hS⟩ := hrel
    clear HS0
    by_cases hlt : k < q
    · obtain ⟨b, off, rfl, hb, hc⟩ := H1.out (by omega)
      obtain ⟨xa, xw, c0, c2, c4, ia, iw⟩ := hc k hlt
      have hz : (k : Int) < (q : Int) := by omega
      have hs0 := hS.out.since
      have g0 := (hs0.cell (a := ⟨b, off + k * 5, none⟩) hb).trans c0
      have hbr := Nat.lt_of_lt_of_le hb hs0.size
      have hsal : wr.Since wr.heap.size (wr.alloc (.cells #[] 3)) := (World.Since.refl _ _).alloc (Nat.le_refl _) _
      have HIA := hid ((ia.since hs0 (Nat.le_refl _)).since hsal (Nat.le_refl _))
      have HIW := hid iw
      have HC := hid (And.intro c2 c4)
      have hsz := hS.out.size
      have hown := hid (World.ownsRow_made (base := w.heap.size + 3) (e := 3) (size := 1) wr #[] 0 hsz (by decide) (by simp))
      have g0' : (wr.alloc (.cells #[] 3)).cell? ⟨b, off + k * 5, none⟩ = some xa := (hsal.cell (a := ⟨b, off + k * 5, none⟩) hbr).trans g0
      have HSAL := hid hsal
      clear hc ia iw c0 c2 c4 hsal
      go_wp2_with (at_builtin; refine wpList_copyL rfl _ _ rfl (w.heap.size + 3) _ xa (LA k) rfl rfl hown.out HIA.out (Nat.le_trans (HA.out k hlt) (by omega)) (by simp; omega) ?_)
      intro v1 w1 hown1 hg1
      have hs1 : wr.Since wr.heap.size w1 := HSAL.out.grown hg1 HSAL.out.size (fun j hj => by simp [Value.ownBlock] at hj; omega)
      have hF1 := hS.out.later hs1
      obtain ⟨⟨y0, p0⟩, _, _, f0, _, _⟩ := hF1.cells hlt
      have hF2 := hF1.stepA (IsLF.of_row hown1)
      obtain ⟨av1, cv1, rfl⟩ := ownsRow_shape2 hown1
      have HF2 := hid hF2
      clear hown1 hg1 hs1 hF1 g0 g0' hown HIA HSAL hS hF2
      go_upto_region 8 with fail
      clear p0 f0
      generalize w1.setCell ⟨w.heap.size, k, none⟩ (.slice av1 (LA k).length cv1) = w2 at HF2 ⊢
      have hsal : w2.Since w2.heap.size (w2.alloc (.cells #[] 3)) := (World.Since.refl _ _).alloc (Nat.le_refl _) _
      have g2 := (HF2.out.since.cell (a := ⟨b, off + k * 5 + 2, none⟩) hb).trans HC.out.1
      have hbr2 := Nat.lt_of_lt_of_le hb HF2.out.since.size
      have g2' : (w2.alloc (.cells #[] 3)).cell? ⟨b, off + k * 5 + 2, none⟩ = some xw := (hsal.cell (a := ⟨b, off + k * 5 + 2, none⟩) hbr2).trans g2
      have HIW2 := hid ((HIW.out.since HF2.out.since (Nat.le_refl _)).since hsal (Nat.le_refl _))
      have hsz2 := HF2.out.size
      have hown := hid (World.ownsRow_made (base := w.heap.size + 3) (e := 3) (size := 1) w2 #[] 0 hsz2 (by decide) (by simp))
      have HSAL := hid hsal
      clear hsal hsz
      go_wp2_with (at_builtin; refine wpList_copyL rfl _ _ rfl (w.heap.size + 3) _ xw (LW k) rfl rfl hown.out HIW2.out (Nat.le_trans (HW.out k hlt) (by omega)) (by simp; omega) ?_)
      intro v2 w3 hown2 hg2
      have hs2 : w2.Since w2.heap.size w3 := HSAL.out.grown hg2 HSAL.out.size (fun j hj => by simp [Value.ownBlock] at hj; omega)
      have hF3 := HF2.out.later hs2
      obtain ⟨_, ⟨y0, p0⟩, _, _, f0, _⟩ := hF3.cells hlt
      have hF4 := hF3.stepW (IsLF.of_row hown2)
      obtain ⟨av2, cv2, rfl⟩ := ownsRow_shape2 hown2
      have HF4 := hid hF4
      clear hown2 hg2 hs2 hF3 g2 g2' hown HIW2 HSAL HF2 hF4
      go_upto_region 9 with fail
      clear p0 f0
      generalize w3.setCell ⟨w.heap.size + 1, k, none⟩ (.slice av2 (LW k).length cv2) = w4 at HF4 ⊢
      have g4 := (HF4.out.since.cell (a := ⟨b, off + k * 5 + 4, none⟩) hb).trans HC.out.2
      obtain ⟨_, _, p0, _, _, f0⟩ := HF4.out.cells hlt
      have HF5 := hid (HF4.out.stepR (k := k))
      clear HF4
      go_wp2
      go_roundg (q - (k + 1))
      case measure => go_light; omega
      case rel => go_light; exact ⟨k + 1, by omega, rfl, by go_num, HF5⟩
    · obtain rfl : k = q := by omega
      obtain ⟨A, W, r1, r2, r3, hA, hW⟩ := hS.out.ex
      have R1 : IsLLF w.heap.size wr (.slice (some ⟨w.heap.size, 0, none⟩) k k) k LA := ⟨_, _, rfl, fun _ => ⟨_, _, rfl, Nat.le_refl _, r1.lt, fun j hj => ⟨A j, by rw [Nat.zero_add]; exact r1.cell hj, (hA j hj).low (by omega)⟩⟩⟩
      have R2 : IsLLF w.heap.size wr (.slice (some ⟨w.heap.size + 1, 0, none⟩) k k) k LW := ⟨_, _, rfl, fun _ => ⟨_, _, rfl, by omega, r2.lt, fun j hj => ⟨W j, by rw [Nat.zero_add]; exact r2.cell hj, (hW j hj).low (by omega)⟩⟩⟩
      have R3 : IsLF w.heap.size wr (.slice (some ⟨w.heap.size + 2, 0, none⟩) k k) (List.replicate k 0) := ⟨_, k, by rw [List.length_replicate], fun _ => ⟨_, _, rfl, by omega, r3.lt, fun j hj => by
        rw [List.length_replicate] at hj
        rw [Nat.zero_add, r3.cell hj]
        simp [List.getD, hj]⟩⟩
      have HR := hid (And.intro R1 (And.intro R2 R3))
      have hs := hS.out.since
      clear r1 r2 r3 hA hW R1 R2 R3
      go_wp2
      go_ret3
      exact ⟨⟨_, _, _, rfl, HR.out.1, HR.out.2.1, HR.out.2.2⟩, hs⟩
end Go.Proofs.Qxb6600184a
