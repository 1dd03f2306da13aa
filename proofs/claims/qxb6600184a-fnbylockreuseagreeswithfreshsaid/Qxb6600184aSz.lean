/-
  sizedLists in the lockSplit, step by step: counted, laid out, put.
-/
import Derived.Test.Qxb6600184aState
namespace Go.Proofs.Qxb6600184a
open Go.RowKit

/-- Behind t counts. -/
def CntE (q g c : Nat) (κ : Nat → Int) (t : Nat) : Ent := lsRow g (q + 1) c (rowL (q + 1) (fun i => .int .i64 (cfT κ t i : Nat)))

theorem rowL_congr {n : Nat} {f g : Nat → Value} (h : ∀ i, i < n → f i = g i) : rowL n f = rowL n g := by
  unfold rowL
  exact List.map_congr_left fun i hi => h i (by simpa using hi)

theorem CntE.zero (q g c : Nat) (κ : Nat → Int) : lsRow g (q + 1) c (List.replicate (q + 1) (.int .i64 0)) = CntE q g c κ 0 := by
  unfold CntE
  rw [rowL_rep]
  congr 1
  refine rowL_congr fun i _ => ?_
  cases i <;> rfl

theorem CntE.skip {q g c : Nat} {κ : Nat → Int} {t : Nat} (h : ∀ k, k < q → κ t ≠ (k : Int)) : CntE q g c κ (t + 1) = CntE q g c κ t := by
  unfold CntE
  congr 1
  refine rowL_congr fun i hi => ?_
  cases i with
  | zero => rfl
  | succ i => show Value.int .i64 ((cn κ i (t + 1) : Nat) : Int) = .int .i64 ((cn κ i t : Nat) : Int); rw [cn_miss (h i (by omega))]

theorem upd_self (E : Nat → Ent) {o : Nat} {x : Ent} (h : E o = x) : upd E o x = E := by
  funext j
  by_cases e : j = o
  · subst e; rw [upd_same, h]
  · rw [upd_other _ _ e]

theorem count_step (w : World) (L o q g c k t : Nat) (κ : Nat → Int) (E : Nat → Ent) (c0 c1 : Value) (h : LS w L E c0 c1) (h1 : 2 ≤ o) (h2 : o < 11) (hE : E o = CntE q g c κ t) (hk : κ t = (k : Int)) (hkq : k < q) (hq : q ≤ 4096) (ht : t ≤ 4096) :
    Calls Try.prog 30 #[.pointer (some ⟨L, o, none⟩), .int .i64 k] w fun e w' => e = .returned (.tuple #[]) ∧ LS w' L (upd E o (CntE q g c κ (t + 1))) c0 c1 ∧ Step w w' L E (upd E o (CntE q g c κ (t + 1))) := by
  have e0 : upd E o (CntE q g c κ t) = E := upd_self E hE
  have hx : cn κ k t ≤ t := by
    have : ∀ t, cn κ k t ≤ t := fun t => by
      induction t with
      | zero => exact Nat.le_refl _
      | succ t ih => unfold cn; split <;> omega
    exact this t
  have p0 := h.cellE h1 h2
  rw [hE] at p0
  have rr := h.readRow h1 h2 hE (j := k + 1) (by omega)
  refine (count_any w L o g (q + 1) c k ((cn κ k t : Nat) : Int) (by omega) (by omega) (by omega) (by omega) p0 rr.1 rr.2).mono fun e w' ⟨he, hw⟩ => ⟨he, ?_⟩
  subst hw
  have hs := LS.storeRow (E := E) (o := o) (g := g) (n := q + 1) (c := c) (f := fun i => .int .i64 (cfT κ t i : Nat)) (f' := fun i => .int .i64 (cfT κ (t + 1) i : Nat)) (by have := h; rw [← e0] at this; exact this) h1 h2 (k + 1) (.int .i64 (((cn κ k t : Nat) : Int) + 1)) (fun i _ => by
    cases i with
    | zero => rw [if_neg (by omega)]; rfl
    | succ i =>
      by_cases e : i = k
      · subst e
        rw [if_pos rfl]
        show _ = Value.int .i64 ((cn κ i (t + 1) : Nat) : Int)
        rw [cn_hit hk]; simp
      · rw [if_neg (by omega)]
        show Value.int .i64 ((cn κ i t : Nat) : Int) = Value.int .i64 ((cn κ i (t + 1) : Nat) : Int)
        rw [cn_miss (fun h => e (by rw [hk] at h; omega))])
  refine ⟨hs.1, ?_⟩
  have := hs.2
  rw [show upd E o (lsRow g (q + 1) c (rowL (q + 1) fun i => .int .i64 (cfT κ t i : Nat))) = E from e0] at this
  exact this

/-- Behind layOut and t puts. -/
structure SzSt (E : Nat → Ent) (o q T : Nat) (κ val : Nat → Int) (t : Nat) : Prop where
  ex : ∃ g c ai ci af cfl X, E o = lsRow g (q + 1) c (rowL (q + 1) (fun i => .int .i64 (sumTo (cfT κ T) i : Nat))) ∧ E (o + 1) = ⟨3, 1, .slice ai (sumTo (cfT κ T) q) ci, sumTo (cfT κ T) q, rowL (sumTo (cfT κ T) q) X⟩ ∧
    E (o + 2) = ⟨3, 1, .slice af q cfl, q, rowL q (fun k => .int .i64 (cn κ k t : Nat))⟩ ∧ Filled (Value.int .i64) κ val T q t X

theorem rowL_getD (l : List Value) : l = rowL l.length (fun i => l.getD i undef) := by
  unfold rowL
  apply List.ext_getElem?
  intro i
  by_cases hi : i < l.length
  · simp [hi, List.getD]
  · simp [hi]

theorem Laid.sz {w w' : World} {L o q g c : Nat} {κ : Nat → Int} {T : Nat} {E : Nat → Ent} {c0 c1 : Value} (val : Nat → Int) (ho1 : 2 ≤ o + 1) (ho2 : o + 1 < 11) (h : Laid w L o q (cfT κ T) g c E c0 c1 w') :
    ∃ E', LS w' L E' c0 c1 ∧ Step w w' L E E' ∧ SzSt E' o q T κ val 0 ∧ ∀ j, j ≠ o → j ≠ o + 1 → j ≠ o + 2 → E' j = E j := by
  obtain ⟨E', ai, ci, xi, af, cfl, hl, hs, a1, a2, a3, a4⟩ := h
  have hlen : xi.length = sumTo (cfT κ T) q := by
    have hown := hl.own (o + 1) ho1 ho2
    rw [a2] at hown
    have := hown.1
    simpa using this
  refine ⟨E', hl, hs, ⟨g, c, ai, ci, af, cfl, fun i => xi.getD i undef, a1, ?_, ?_, Filled.none⟩, a4⟩
  · rw [a2]
    congr 1
    rw [← hlen]
    exact rowL_getD xi
  · rw [a3]
    congr 1

theorem own_some {w : World} {base : Nat} {a : Option Addr} {n c : Nat} {xs : List Value} (h : w.ownsRow base 3 1 (.slice a n c) n xs) (hn : 0 < n) : ∃ g, a = some ⟨g, 0, none⟩ := by
  rcases h.2 with ⟨e, e2⟩ | ⟨g, cap, cur, e, _⟩
  · omega
  · simp only [Value.slice.injEq] at e; exact ⟨g, e.1⟩

theorem put_step (w : World) (L o q T k t : Nat) (κ val : Nat → Int) (E : Nat → Ent) (c0 c1 : Value) (h : LS w L E c0 c1) (ho1 : 2 ≤ o) (ho2 : o + 2 < 11) (hz : SzSt E o q T κ val t) (hk : κ t = (k : Int)) (hkq : k < q) (hq : q ≤ 4096) (ht : t < T) (hT : T ≤ 4096) :
    Calls Try.prog 32 #[.pointer (some ⟨L, o, none⟩), .int .i64 k, .int .i64 (val t)] w fun e w' => (∃ r, e = .returned (.int .i64 r)) ∧ ∃ E', LS w' L E' c0 c1 ∧ Step w w' L E E' ∧ SzSt E' o q T κ val (t + 1) ∧ ∀ j, j ≠ o → j ≠ o + 1 → j ≠ o + 2 → E' j = E j := by
  obtain ⟨g, c, ai, ci, af, cfl, X, a1, a2, a3, hF⟩ := hz.ex
  have hsum := sum_cfT κ q T
  have hpl := place_lt (T := T) ht hk
  have hle := sumTo_le (cfT κ T) (show k + 1 ≤ q by omega)
  have o1 := h.own (o + 1) (by omega) (by omega)
  have o2 := h.own (o + 2) (by omega) (by omega)
  have p0 := h.cellE (i := o) (by omega) (by omega)
  have p1 := h.cellE (i := o + 1) (by omega) (by omega)
  have p2 := h.cellE (i := o + 2) (by omega) (by omega)
  rw [a2] at o1 p1
  rw [a3] at o2 p2
  rw [a1] at p0
  obtain ⟨gi, rfl⟩ := own_some o1 (by omega)
  obtain ⟨gf, rfl⟩ := own_some o2 (by omega)
  have r0 := h.readRow (o := o) (by omega) (by omega) a1 (j := k) (by omega)
  have r1 := ownsRow_read o1 (rowL_get _ X (show sumTo (cfT κ T) k + cn κ k t < sumTo (cfT κ T) q by omega))
  have r2 := ownsRow_read o2 (rowL_get q (fun k => .int .i64 (cn κ k t : Nat)) hkq)
  have d1 : L ≠ gi := by have := (o1.lt gi rfl).1; omega
  have d2 : gf ≠ gi := fun e => h.apart (o + 2) (o + 1) (by omega) (by omega) (by omega) (by omega) (by omega) gf (by rw [a3]; rfl) (by rw [a2, e]; rfl)
  refine (put_any w L o g gi gf (q + 1) c (sumTo (cfT κ T) q) ci q cfl k (sumTo (cfT κ T) k) (cn κ k t) (val t) _ (by omega) (by omega) hkq (by omega) p0 p1 p2 r0.1 r2.1 r1.1 r1.2 r2.2 d1 d2).mono fun e w' ⟨he, m, hw⟩ => ⟨he, ?_⟩
  obtain ⟨hd, sd⟩ := h.drewN m
  obtain ⟨h1, s1⟩ := hd.store (i := o + 1) (by omega) (by omega) (g := gi) (n := sumTo (cfT κ T) q) (c := ci) (by rw [a2]) (j := sumTo (cfT κ T) k + cn κ k t) (.int .i64 (val t))
  obtain ⟨h2, s2⟩ := h1.store (i := o + 2) (by omega) (by omega) (g := gf) (n := q) (c := cfl) (by rw [upd_other _ _ (by omega), a3]) (j := k) (.int .i64 ((cn κ k t : Int) + 1))
  rw [hw] at h2 s2
  refine ⟨_, h2, (sd.trans s1).trans s2, ⟨g, c, some ⟨gi, 0, none⟩, ci, some ⟨gf, 0, none⟩, cfl, fun i => if i = sumTo (cfT κ T) k + cn κ k t then .int .i64 (val t) else X i, ?_, ?_, ?_, hF.put hk ht (fun i => rfl)⟩, fun j j0 j1 j2 => by rw [upd_other _ _ j2, upd_other _ _ j1]⟩
  · rw [upd_other _ _ (by omega), upd_other _ _ (by omega), a1]
  · rw [upd_other _ _ (by omega), upd_same, a2]
    simp only
    congr 1
    exact rowL_set _ _ _ _ _ (fun i _ => rfl)
  · rw [upd_same, upd_other _ _ (by omega), a3]
    simp only
    congr 1
    refine rowL_set _ _ _ _ _ (fun i _ => ?_)
    by_cases e : i = k
    · subst e; rw [if_pos rfl, cn_hit hk]; simp
    · rw [if_neg e, cn_miss (fun h => e (by rw [hk] at h; omega))]

theorem SzSt.skip {E : Nat → Ent} {o q T : Nat} {κ val : Nat → Int} {t : Nat} (h : SzSt E o q T κ val t) (hk : ∀ k, k < q → κ t ≠ (k : Int)) : SzSt E o q T κ val (t + 1) := by
  obtain ⟨g, c, ai, ci, af, cfl, X, a1, a2, a3, hF⟩ := h.ex
  refine ⟨g, c, ai, ci, af, cfl, X, a1, a2, ?_, hF.skip hk⟩
  rw [a3]
  congr 1
  exact rowL_congr fun k hq => by rw [cn_miss (hk k hq)]
end Go.Proofs.Qxb6600184a
