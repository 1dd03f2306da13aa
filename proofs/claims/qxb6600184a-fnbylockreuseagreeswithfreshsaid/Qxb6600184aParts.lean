/-
  A list of sizedLists handed out ('of'), and read.
-/
import Derived.Test.Qxb6600184aSz
namespace Go.Proofs.Qxb6600184a
open Go.RowKit

/-- A part of n cells from st on, of the row at ad. -/
def PartV (ad : Option Addr) (st n : Nat) (x : Value) : Prop := ∃ a' c', x = .slice a' n c' ∧ (0 < n → a' = ad.map fun y => ⟨y.block, y.off + st, none⟩)

/-- The value x is a slice that reads as the list l. -/
def IsL (w : World) (x : Value) (l : List Int) : Prop :=
  ∃ a c, x = .slice a l.length c ∧ (0 < l.length → ∃ b off, a = some ⟨b, off, none⟩ ∧ b < w.heap.size ∧ ∀ i, i < l.length → w.cell? ⟨b, off + i, none⟩ = some (.int .i64 (l.getD i 0)))

theorem IsL.since {w w' : World} {x : Value} {l : List Int} {B : Nat} (h : IsL w x l) (hs : w.Since B w') (hB : w.heap.size ≤ B) : IsL w' x l := by
  obtain ⟨a, c, e, h1⟩ := h
  refine ⟨a, c, e, fun hn => ?_⟩
  obtain ⟨b, off, ea, hb, hc⟩ := h1 hn
  exact ⟨b, off, ea, Nat.lt_of_lt_of_le hb hs.size, fun i hi => (hs.cell (a := ⟨b, off + i, none⟩) (Nat.lt_of_lt_of_le hb hB)).trans (hc i hi)⟩

theorem Part.since {w w' : World} {ad : Option Addr} {st en : Nat} {e : Ending} (h : Part w ad st en e w') : (∃ x, e = .returned x ∧ PartV ad st (en - st) x) ∧ w.Since w.heap.size w' := by
  obtain ⟨a', c', he, ha, o, m, rfl⟩ := h
  exact ⟨⟨_, he, a', c', rfl, fun hn => ha (by omega)⟩, Since.drewN ((World.Since.refl _ _).alloc (Nat.le_refl _) o) m⟩

/-- 'of' on a row that is laid out. -/
theorem of_sz (w : World) (L o q T k g c ci : Nat) (κ : Nat → Int) (ai : Option Addr) (xi : List Value) (E : Nat → Ent) (c0 c1 : Value) (h : LS w L E c0 c1) (ho1 : 2 ≤ o) (ho2 : o + 1 < 11) (hq : q ≤ 4096) (hk : k < q)
    (a1 : E o = lsRow g (q + 1) c (rowL (q + 1) (fun i => .int .i64 (sumTo (cfT κ T) i : Nat)))) (a2 : E (o + 1) = ⟨3, 1, .slice ai (sumTo (cfT κ T) q) ci, sumTo (cfT κ T) q, xi⟩) :
    Calls Try.prog 33 #[.agg #[.slice (some ⟨g, 0, none⟩) (q + 1) c, .slice ai (sumTo (cfT κ T) q) ci], .int .i64 k] w fun e w' => (∃ x, e = .returned x ∧ PartV ai (sumTo (cfT κ T) k) (cn κ k T) x) ∧ w.Since w.heap.size w' := by
  have r0 := (h.readRow (o := o) ho1 (by omega) a1 (j := k) (by omega)).1
  have r1 := (h.readRow (o := o) ho1 (by omega) a1 (j := k + 1) (by omega)).1
  have hle := sumTo_le (cfT κ T) (show k + 1 ≤ q by omega)
  have hst : sumTo (cfT κ T) (k + 1) = sumTo (cfT κ T) k + cn κ k T := rfl
  have o1 := h.own (o + 1) (by omega) ho2
  rw [a2] at o1
  have hd : sumTo (cfT κ T) (k + 1) - sumTo (cfT κ T) k = cn κ k T := by omega
  rcases o1.2 with ⟨e, e2⟩ | ⟨gi, cap, cur, e, _, _, hnc, _⟩
  · simp only [Value.slice.injEq] at e
    obtain ⟨rfl, e3, rfl⟩ := e
    simp only at e2
    have z0 : sumTo (cfT κ T) k = 0 := by omega
    have z1 : sumTo (cfT κ T) (k + 1) = 0 := by omega
    rw [z0] at r0
    rw [z1] at r1
    have := of_nil w g (q + 1) c k (by omega) (by omega) r0 r1
    rw [show sumTo (cfT κ T) q = 0 from e3]
    refine this.mono fun e w' hp => ?_
    have hp' := hp.since
    rw [z0]
    rw [show cn κ k T = 0 by omega]
    exact hp'
  · simp only [Value.slice.injEq] at e
    obtain ⟨rfl, _, rfl⟩ := e
    refine (of_some w gi g (q + 1) c (sumTo (cfT κ T) q) ci k (sumTo (cfT κ T) k) (sumTo (cfT κ T) (k + 1)) (by omega) (by omega) (by omega) hle hnc r0 r1).mono fun e w' hp => ?_
    have hp' := hp.since
    rw [hd] at hp'
    exact hp'

/-- A part, read. -/
theorem PartV.isL {w : World} {L o q T k : Nat} {κ val : Nat → Int} {E : Nat → Ent} {c0 c1 : Value} {ai : Option Addr} {ci : Nat} {X : Nat → Value} {x : Value} (hp : PartV ai (sumTo (cfT κ T) k) (cn κ k T) x) (h : LS w L E c0 c1) (ho1 : 2 ≤ o + 1) (ho2 : o + 1 < 11) (hk : k < q)
    (a2 : E (o + 1) = ⟨3, 1, .slice ai (sumTo (cfT κ T) q) ci, sumTo (cfT κ T) q, rowL (sumTo (cfT κ T) q) X⟩) (hF : Filled (Value.int .i64) κ val T q T X) : IsL w x (sel κ val k T) := by
  obtain ⟨a', c', rfl, ha⟩ := hp
  have hl := sel_len κ val k T
  refine ⟨a', c', by rw [hl], fun hn => ?_⟩
  rw [hl] at hn
  have hle := sumTo_le (cfT κ T) (show k + 1 ≤ q by omega)
  have hst : sumTo (cfT κ T) (k + 1) = sumTo (cfT κ T) k + cn κ k T := rfl
  have o1 := h.own (o + 1) ho1 ho2
  rw [a2] at o1
  obtain ⟨gi, rfl⟩ := own_some o1 (by show 0 < sumTo (cfT κ T) q; omega)
  refine ⟨gi, sumTo (cfT κ T) k, ?_, (o1.lt gi rfl).2, fun i hi => ?_⟩
  · rw [ha hn]; simp
  · rw [hl] at hi
    rw [(ownsRow_read o1 (rowL_get _ X (show sumTo (cfT κ T) k + i < sumTo (cfT κ T) q by omega))).1, hF k hk i hi]
end Go.Proofs.Qxb6600184a
