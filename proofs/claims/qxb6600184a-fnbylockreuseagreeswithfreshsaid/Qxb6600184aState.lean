/-
  A lockSplit with its map, between the steps of byLock; what byLock reads. No walk here.
-/
import Derived.Test.Qxb6600184aLay
import Derived.Test.Qxb6600184aQMap
namespace Go.Proofs.Qxb6600184a
open Go.RowKit

/-- From w to w' nothing has turned but the lockSplit's own and its map; what it owns now it owned, or it is new. -/
structure Keep (w w' : World) (L M : Nat) (E E' : Nat → Ent) : Prop where
  os : w'.os = w.os
  tape : w'.tape = w.tape
  output : w'.output = w.output
  size : w.heap.size ≤ w'.heap.size
  block : ∀ k, k < w.heap.size → k ≠ L → k ≠ M → (∀ i, 2 ≤ i → i < 11 → (E i).v.ownBlock ≠ some k) → w'.heap[k]? = w.heap[k]?
  fresh : ∀ i k, 2 ≤ i → i < 11 → (E' i).v.ownBlock = some k → (∃ j, 2 ≤ j ∧ j < 11 ∧ (E j).v.ownBlock = some k) ∨ w.heap.size ≤ k

theorem Step.keep {w w' : World} {L : Nat} {E E' : Nat → Ent} (h : Step w w' L E E') (M : Nat) : Keep w w' L M E E' :=
  ⟨h.os, h.tape, h.output, h.size, fun k h1 h2 _ h4 => h.block k h1 h2 h4, h.fresh⟩
theorem Keep.refl (w : World) (L M : Nat) (E : Nat → Ent) : Keep w w L M E E := (Step.refl w L E).keep M
theorem Keep.trans {w w1 w2 : World} {L M : Nat} {E E1 E2 : Nat → Ent} (h : Keep w w1 L M E E1) (k : Keep w1 w2 L M E1 E2) : Keep w w2 L M E E2 := by
  refine ⟨k.os.trans h.os, k.tape.trans h.tape, k.output.trans h.output, Nat.le_trans h.size k.size, fun b hb hL hM hn => ?_, fun i b h1 h2 he => ?_⟩
  · rw [k.block b (Nat.lt_of_lt_of_le hb h.size) hL hM (fun i h1 h2 he => ?_), h.block b hb hL hM hn]
    rcases h.fresh i b h1 h2 he with ⟨j, j1, j2, hj⟩ | hge
    · exact hn j j1 j2 hj
    · omega
  · rcases k.fresh i b h1 h2 he with ⟨j, j1, j2, hj⟩ | hge
    · exact h.fresh j b j1 j2 hj
    · exact .inr (Nat.le_trans h.size hge)

/-- The lockSplit at L, its map at M; c: its count of sites. -/
structure St (w : World) (L M nm : Nat) (E : Nat → Ent) (c : Int) (G : ByteArray → Option (Int × Int)) : Prop where
  ls : LS w L E (.int .i64 c) (.map (some M))
  map : MapQ w M nm G
  ml : M < L

section
variable {w w' : World} {L M nm : Nat} {E E' : Nat → Ent} {c c' : Int} {G : ByteArray → Option (Int × Int)}

theorem St.own_ne (h : St w L M nm E c G) : ∀ i, 2 ≤ i → i < 11 → (E i).v.ownBlock ≠ some M := fun i h1 h2 e => by have := (h.ls.blk h1 h2 e).1; have := h.ml; omega

theorem St.step (h : St w L M nm E c G) (hl : LS w' L E' (.int .i64 c') (.map (some M))) (hs : Step w w' L E E') : St w' L M nm E' c' G :=
  ⟨hl, h.map.block (hs.block M h.map.lt (by have := h.ml; omega) h.own_ne), h.ml⟩

/-- New blocks alone. -/
theorem St.since (h : St w L M nm E c G) (hs : w.Since w.heap.size w') : St w' L M nm E c G ∧ Keep w w' L M E E := by
  obtain ⟨h1, h2⟩ := h.ls.grown (w1 := w') ⟨hs.os, hs.tape, hs.output, hs.size, fun k hk _ => hs.block k hk⟩
  exact ⟨h.step h1 h2, h2.keep M⟩

/-- A store into the map. -/
theorem St.mapped (h : St w L M nm E c G) {nm' : Nat} {G' : ByteArray → Option (Int × Int)} (hg : w.grownBy w' (some M)) (hm : MapQ w' M nm' G') : St w' L M nm' E c G' ∧ Keep w w' L M E E :=
  ⟨⟨h.ls.other hg (by have := h.ml; omega) h.own_ne, hm, h.ml⟩, hg.os, hg.tape, hg.output, hg.size, fun k hk _ hM _ => hg.block k hk (by simpa using hM), fun i k h1 h2 he => .inl ⟨i, h1, h2, he⟩⟩

/-- Whatever lies below the map is as it was. -/
theorem Keep.below (k : Keep w w' L M E E') (h : St w L M nm E c G) : w.Since M w' :=
  ⟨k.os, k.tape, k.output, k.size, fun b hb => k.block b (by have := h.map.lt; omega) (by have := h.ml; omega) (by omega) (fun i h1 h2 e => by have := (h.ls.blk h1 h2 e).1; have := h.ml; omega)⟩
end

/-! ### What byLock reads -/
/-- The slice at a, n elements, in a block below M, reads as f. -/
def InB (w : World) (M : Nat) (a : Option Addr) (n : Nat) (f : Nat → Value) : Prop :=
  0 < n → ∃ b off, a = some ⟨b, off, none⟩ ∧ b < M ∧ ∀ i, i < n → w.cell? ⟨b, off + i, none⟩ = some (f i)
theorem InB.since {w w' : World} {M n : Nat} {a : Option Addr} {f : Nat → Value} (h : InB w M a n f) (hs : w.Since M w') : InB w' M a n f := fun hn => by
  obtain ⟨b, off, e, hb, hc⟩ := h hn
  exact ⟨b, off, e, hb, fun i hi => (hs.cell (a := ⟨b, off + i, none⟩) hb).trans (hc i hi)⟩
theorem InB.mono {w : World} {M M' n : Nat} {a : Option Addr} {f : Nat → Value} (h : InB w M a n f) (hM : M ≤ M') : InB w M' a n f := fun hn => by
  obtain ⟨b, off, e, hb, hc⟩ := h hn
  exact ⟨b, off, e, by omega, hc⟩

/-- The arguments of one split. -/
structure Ins where
  aw : Option Addr
  aa : Option Addr
  al : Option Addr
  ax : Option Addr
  nw : Nat
  na : Nat
  cw : Nat
  ca : Nat
  cl : Nat
  cx : Nat
  fw : Nat → Int
  fa : Nat → Int
  N : Nat → ByteArray
  xl : Nat → Nat
  X : Nat → Nat → ByteArray

/-- How many names the first i active ones have taken. -/
def pos (xl : Nat → Nat) : Nat → Nat
  | 0 => 0
  | i + 1 => pos xl i + xl i
theorem pos_mono (xl : Nat → Nat) {i j : Nat} (h : i ≤ j) : pos xl i ≤ pos xl j := by
  induction j with
  | zero => obtain rfl : i = 0 := by omega
            exact Nat.le_refl _
  | succ j ih =>
    by_cases e : i = j + 1
    · subst e; exact Nat.le_refl _
    · exact Nat.le_trans (ih (by omega)) (Nat.le_add_right _ _)
theorem pos_lt (xl : Nat → Nat) {i j r : Nat} (h : i < j) (hr : r < xl i) : pos xl i + r < pos xl j := by
  have := pos_mono xl (show i + 1 ≤ j by omega)
  have e : pos xl (i + 1) = pos xl i + xl i := rfl
  omega

/-- Whose is number t. -/
def who (xl : Nat → Nat) : Nat → Nat → Nat
  | 0, _ => 0
  | i + 1, t => if pos xl i ≤ t then i else who xl i t
theorem who_at (xl : Nat → Nat) {n i r : Nat} (hi : i < n) (hr : r < xl i) : who xl n (pos xl i + r) = i := by
  induction n with
  | zero => omega
  | succ n ih =>
    unfold who
    by_cases e : i = n
    · subst e; rw [if_pos (by omega)]
    · rw [if_neg (by have := pos_lt xl (show i < n by omega) hr; omega), ih (by omega)]

/-- The places of the names: the key of waiter i; the key of taken name t, or -1; who took it. -/
def Ins.κw (I : Ins) (i : Nat) : Int := (kw I.N i : Nat)
def Ins.keyOf (I : Ins) (s : ByteArray) : Int := keyIn (dst I.N I.nw) s
def Ins.nt (I : Ins) : Nat := pos I.xl I.na
def Ins.κa (I : Ins) (t : Nat) : Int := I.keyOf (I.X (who I.xl I.na t) (t - pos I.xl (who I.xl I.na t)))
def Ins.va (I : Ins) (t : Nat) : Int := I.fa (who I.xl I.na t)
def Ins.q (I : Ins) : Nat := (dst I.N I.nw).length

theorem Ins.κa_at (I : Ins) {i r : Nat} (hi : i < I.na) (hr : r < I.xl i) : I.κa (pos I.xl i + r) = I.keyOf (I.X i r) := by
  unfold Ins.κa
  rw [who_at I.xl hi hr, Nat.add_sub_cancel_left]
theorem Ins.va_at (I : Ins) {i r : Nat} (hi : i < I.na) (hr : r < I.xl i) : I.va (pos I.xl i + r) = I.fa i := by
  unfold Ins.va
  rw [who_at I.xl hi hr]
theorem Ins.q_le (I : Ins) : I.q ≤ I.nw := dst_len _ _

/-- The bounds, and names that can be keys. -/
structure Ins.Fit (I : Ins) : Prop where
  nw : I.nw ≤ 4096
  na : I.na ≤ 4096
  nt : I.nt ≤ 4096
  okN : ∀ i, i < I.nw → OkN (I.N i)
  okX : ∀ i, i < I.na → ∀ r, r < I.xl i → OkN (I.X i r)

/-- The arguments in memory, below M. -/
structure Ins.In (I : Ins) (w : World) (M : Nat) : Prop where
  hw : InB w M I.aw I.nw (fun i => .int .i64 (I.fw i))
  ha : InB w M I.aa I.na (fun i => .int .i64 (I.fa i))
  hl : InB w M I.al I.nw (fun i => .string (I.N i))
  hx : 0 < I.na → ∃ b off, I.ax = some ⟨b, off, none⟩ ∧ b < M ∧ ∀ i, i < I.na → ∃ a c, w.cell? ⟨b, off + i, none⟩ = some (.slice a (I.xl i) c) ∧ InB w M a (I.xl i) (fun r => .string (I.X i r))

theorem Ins.In.since {I : Ins} {w w' : World} {M : Nat} (h : I.In w M) (hs : w.Since M w') : I.In w' M :=
  ⟨h.hw.since hs, h.ha.since hs, h.hl.since hs, fun hn => by
    obtain ⟨b, off, e, hb, hc⟩ := h.hx hn
    refine ⟨b, off, e, hb, fun i hi => ?_⟩
    obtain ⟨a, c, h1, h2⟩ := hc i hi
    exact ⟨a, c, (hs.cell (a := ⟨b, off + i, none⟩) hb).trans h1, h2.since hs⟩⟩
end Go.Proofs.Qxb6600184a
