/-
  byLock: whatever the lockSplit held, the queues are those of the arguments.
-/
import Derived.Test.Qxb6600184aBy0
import Derived.Test.Qxb6600184aBy4c
import Derived.Test.Qxb6600184aBy5
namespace Go.Proofs.Qxb6600184a
open Go.RowKit

/-- The element types of the lockSplit's rows. -/
def TypesOk (E : Nat → Ent) : Prop := (∀ i, 2 ≤ i → i ≤ 9 → (E i).e = 3 ∧ (E i).sz = 1) ∧ (E 10).e = 57 ∧ (E 10).sz = 5

/-- The value v is a slice of q queues: LA k active, LW k waiting, in queue k. -/
def QsIs (w : World) (v : Value) (q : Nat) (LA LW : Nat → List Int) : Prop :=
  ∃ a c, v = .slice a q c ∧ (0 < q → ∃ b off, a = some ⟨b, off, none⟩ ∧ b < w.heap.size ∧ ∀ k, k < q → ∃ xa xw, w.cell? ⟨b, off + k * 5, none⟩ = some xa ∧ w.cell? ⟨b, off + k * 5 + 2, none⟩ = some xw ∧ w.cell? ⟨b, off + k * 5 + 4, none⟩ = some (.int .u8 0) ∧ IsL w xa (LA k) ∧ IsL w xw (LW k))

def Ins.LA (I : Ins) (k : Nat) : List Int := sel I.κa I.va k I.nt
def Ins.LW (I : Ins) (k : Nat) : List Int := sel I.κw I.fw k I.nw

/-- Behind byLock. -/
def ByPost (w : World) (L M nm : Nat) (E : Nat → Ent) (c : Int) (G : ByteArray → Option (Int × Int)) (I : Ins) (e : Ending) (w' : World) : Prop :=
  ∃ E' nm' v, e = .returned v ∧ St w' L M nm' E' (c + 1) (over (dst I.N I.nw) (c + 1) G) ∧ Keep w w' L M E E' ∧ nm' ≤ nm + I.nw ∧ TypesOk E' ∧ QsIs w' v I.q I.LA I.LW

theorem ents_len (A W : Nat → Value) (k : Nat) : (ents A W k).length = k * 5 := by
  induction k with
  | zero => rfl
  | succ k ih => unfold ents at *; rw [List.range_succ, List.flatMap_append, List.length_append, ih]; simp [ent]; omega

theorem ents_at (A W : Nat → Value) (q : Nat) : ∀ k j, k < q → j < 5 → (ents A W q)[k * 5 + j]? = (ent (A k) (W k))[j]? := by
  induction q with
  | zero => intro k j hk; omega
  | succ q ih =>
    intro k j hk hj
    have hs : ents A W (q + 1) = ents A W q ++ ent (A q) (W q) := by unfold ents; rw [List.range_succ, List.flatMap_append]; simp
    rw [hs]
    by_cases e : k = q
    · subst e
      rw [List.getElem?_append_right (by rw [ents_len]; omega), ents_len]
      congr 1
      omega
    · rw [List.getElem?_append_left (by rw [ents_len]; omega)]
      exact ih k j (by omega) hj

theorem byLock_any (w : World) (L M nm : Nat) (E : Nat → Ent) (c : Int) (G : ByteArray → Option (Int × Int)) (I : Ins) (F : I.Fit) (hin : I.In w M) (hst : St w L M nm E c G) (hty : TypesOk E) (hnm : nm ≤ 1048576) (hold : ∀ s a b, G s = some (a, b) → a ≤ c) (hc : 0 ≤ c ∧ c ≤ 900) :
    Calls Try.prog 26 #[.pointer (some ⟨L, 0, none⟩), qV I, .slice I.al I.nw I.cl, .slice I.ax I.na I.cx] w (ByPost w L M nm E c G I) := by
  have hold' : ∀ s a b, G s = some (a, b) → a < c + 1 := fun s a b h => by have := hold s a b h; omega
  refine by0 _ w L M nm I E c G hst (hty.1 2 (by omega) (by omega)) hc fun w1 v0 hSt1 hK1 hbx1 => ?_
  have hin1 := hin.since (hK1.below hst)
  refine by1 _ w1 L M _ nm I _ (c + 1) G v0 F hin1 hSt1 (upd_same _ _ _) hnm hold' ⟨by omega, by omega⟩ ?_
  rintro w2 ⟨E2, nm2, v2, hSt2, hK2, hnm2, he2, ho2⟩
  have hin2 := hin1.since (hK2.below hSt1)
  have hE2 : ∀ i, i ≠ 2 → E2 i = E i := fun i hi => (ho2 i hi).trans (upd_other _ _ hi)
  refine by2 _ w2 L M _ nm2 I E2 (c + 1) G _ F hin2 hSt2 (by rw [hE2 3 (by omega)]; exact hty.1 3 (by omega) (by omega)) hold' ?_
  rintro w3 ⟨E3, v3, hSt3, hK3, he3, ho3⟩
  have hin3 := hin2.since (hK3.below hSt2)
  have hbx3 := (hbx1.keep hK2).keep hK3
  have hE3 : ∀ i, i ≠ 2 → i ≠ 3 → E3 i = E i := fun i h2 h3 => (ho3 i h3).trans (hE2 i h2)
  have he2' : E3 2 = wqE I I.nw v2 := (ho3 2 (by omega)).trans he2
  refine by3 _ w3 L M _ nm2 I E3 (c + 1) _ v2 F hin3 hSt3 hbx3 he2' (fun i h1 h2 => by rw [hE3 i (by omega) (by omega)]; exact hty.1 i (by omega) (by omega)) ?_
  rintro w4 ⟨E4, hSt4, hK4, hz4, ho4⟩
  have hin4 := hin3.since (hK4.below hSt3)
  have hbx4 := hbx3.keep hK4
  have he3' : E4 3 = tqE I I.nt v3 := (ho4 3 (by omega) (by omega) (by omega)).trans he3
  have hty7 : ∀ i, 7 ≤ i → i ≤ 9 → (E4 i).e = 3 ∧ (E4 i).sz = 1 := fun i h1 h2 => by rw [ho4 i (by omega) (by omega) (by omega), hE3 i (by omega) (by omega)]; exact hty.1 i (by omega) (by omega)
  refine by4a _ w4 L M _ nm2 I E4 (c + 1) _ v3 F hin4 hSt4 hbx4 he3' hty7 fun w5 h5 => ?_
  refine by4b _ w4 w5 L M _ nm2 I E4 (c + 1) _ v3 F hin4 hSt4 hbx4 he3' hty7 h5 fun w6 h6 => ?_
  refine by4c _ w4 w6 L M _ nm2 I E4 (c + 1) _ v3 F hin4 hSt4 hbx4 he3' hty7 h6 ?_
  rintro w7 ⟨E7, hSt7, hK7, hz7, ho7⟩
  obtain ⟨ga, ca, aa, cia, afa, cfa, XA, b1, b2, b3, hFA⟩ := hz7.ex
  obtain ⟨gw, cw, aw, ciw, afw, cfw, XW, d1, d2, d3, hFW⟩ := hz4.ex
  have d1' := (ho7 4 (by omega) (by omega) (by omega)).trans d1
  have d2' := (ho7 5 (by omega) (by omega) (by omega)).trans d2
  have d3' := (ho7 6 (by omega) (by omega) (by omega)).trans d3
  have h10 : E7 10 = E 10 := (ho7 10 (by omega) (by omega) (by omega)).trans ((ho4 10 (by omega) (by omega) (by omega)).trans (hE3 10 (by omega) (by omega)))
  refine by5 _ w7 L M _ nm2 ga ca cia gw cw ciw I E7 (c + 1) _ aa aw _ _ F hSt7 b1 b2 d1' d2' (by rw [h10]; exact hty.2) ?_
  intro w8 E8 v A W hSt8 hK8 he8 ho8 hP
  have c1 := (ho8 8 (by omega)).trans b2
  have c2 := (ho8 5 (by omega)).trans d2'
  refine ⟨E8, nm2, v, rfl, hSt8, ((((hK1.trans hK2).trans hK3).trans hK4).trans hK7).trans hK8, hnm2, ⟨fun i h1 h2 => ?_, by rw [he8]; exact ⟨rfl, rfl⟩⟩, ?_⟩
  · rw [ho8 i (by omega)]
    by_cases h7 : 7 ≤ i
    · have : i = 7 ∨ i = 8 ∨ i = 9 := by omega
      rcases this with rfl | rfl | rfl
      · rw [b1]; exact ⟨rfl, rfl⟩
      · rw [b2]; exact ⟨rfl, rfl⟩
      · rw [b3]; exact ⟨rfl, rfl⟩
    · rw [ho7 i (by omega) (by omega) (by omega)]
      by_cases h4 : 4 ≤ i
      · have : i = 4 ∨ i = 5 ∨ i = 6 := by omega
        rcases this with rfl | rfl | rfl
        · rw [d1]; exact ⟨rfl, rfl⟩
        · rw [d2]; exact ⟨rfl, rfl⟩
        · rw [d3]; exact ⟨rfl, rfl⟩
      · rw [ho4 i (by omega) (by omega) (by omega)]
        have : i = 2 ∨ i = 3 := by omega
        rcases this with rfl | rfl
        · rw [he2']; exact ⟨rfl, rfl⟩
        · rw [he3]; exact ⟨rfl, rfl⟩
  · have hown := hSt8.ls.own 10 (by omega) (by omega)
    rw [he8] at hown
    simp only at hown
    have hread : ∀ g cap k j x, v = .slice (some ⟨g, 0, none⟩) I.q cap → k < I.q → j < 5 → (ent (A k) (W k))[j]? = some x → w8.cell? ⟨g, k * 5 + j, none⟩ = some x := fun g cap k j x hv hk hj hx => by
      rw [hv] at hown
      exact (ownsRow_read hown (by rw [ents_at A W I.q k j hk hj]; exact hx)).1
    rcases hown.2 with ⟨e, e2⟩ | ⟨g, cap, cur, e, _, hh, _⟩
    · exact ⟨none, 0, by rw [e, e2], fun h => absurd h (by omega)⟩
    · refine ⟨some ⟨g, 0, none⟩, cap, e, fun _ => ⟨g, 0, rfl, (Array.getElem?_eq_some_iff.1 hh).1, fun k hk => ⟨A k, W k, ?_, ?_, ?_, ?_, ?_⟩⟩⟩
      · rw [Nat.zero_add]; exact hread g cap k 0 _ e hk (by omega) rfl
      · rw [Nat.zero_add]; exact hread g cap k 2 _ e hk (by omega) rfl
      · rw [Nat.zero_add]; exact hread g cap k 4 _ e hk (by omega) rfl
      · exact (hP k hk).1.isL (o := 7) hSt8.ls (by omega) (by omega) hk c1 hFA
      · exact (hP k hk).2.isL (o := 4) hSt8.ls (by omega) (by omega) hk c2 hFW
end Go.Proofs.Qxb6600184a
