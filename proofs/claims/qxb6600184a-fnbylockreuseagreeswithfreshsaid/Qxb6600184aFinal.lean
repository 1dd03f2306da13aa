/-
  A REGION THAT DRAWS ITS ORDER AND ENDS IN A STORE INTO A CELL THAT IT HAS READ ('x.f = g(x.f, ..)'): the condition S on the world is owed behind every operation but that last one, which waits for all the others.
  Beside the kit's 'wpAnyH' (Derived/OrdersHeld.lean), which owes S behind the last one too. No project text.
-/
import Derived.Deep.RegionHeld3
namespace Go.Proofs.Qxb6600184a
open Go

section
variable {P : Program} {ops : Array Oper} {Q : Exit → Act → World → Prop} {S : World → Prop}

/-- Whatever order comes up from here on; S is owed behind each operation but number f. -/
def OrdF (P : Program) (ops : Array Oper) (Q : Exit → Act → World → Prop) (S : World → Prop) (f : Nat) : Nat → Array Bool → Act → World → Prop
  | 0, listed, a, w => Region.ready .any ops listed = [] ∧ Q .normal a w
  | fuel + 1, listed, a, w =>
    (Region.ready .any ops listed = [] → Q .normal a w) ∧
    ∀ i ∈ Region.ready .any ops listed, wpOp P ops Q i (fun a' w' => (i ≠ f → S w') ∧ OrdF P ops Q S f fuel (listed.setIfInBounds i true) a' w') a w

theorem OrdF.any {f : Nat} : ∀ (fuel : Nat) (listed : Array Bool) (a : Act) (w : World), OrdF P ops Q S f fuel listed a w → wpAny P .any ops Q fuel listed a w
  | 0, _, _, _, h => h
  | fuel + 1, _, _, _, h => ⟨h.1, fun i hi => wpOp_mono (fun a' w' k => OrdF.any fuel _ a' w' k.2) (h.2 i hi)⟩

/-- An operation that f waits for, and that yields in every world that meets S, may be taken first. -/
theorem OrdF.first {f i : Nat} {oi lo : Oper} {v : Value} (hi : ops[i]? = some oi) (hf : ops[f]? = some lo) (hw : ∃ e ∈ lo.after, Region.binds .any e = true ∧ e.on = i) (hne : i ≠ f)
    (hsel : ∀ (j : Nat) (o : Oper) cs b, ops[j]? = some o → o.op ≠ .select cs b) (hQ : ∀ c a w, Q (.panic c) (a.put oi.dst v) w → Q (.panic c) a w) :
    ∀ (fuel : Nat) (listed : Array Bool) (a : Act) (w : World),
      (∀ j oj, ops[j]? = some oj → j ≠ i → listed.getD j true = false → (∀ e ∈ oj.after, Region.binds .any e = true → e.on ≠ i) → oi.apart ops oj = true) →
      i ∈ Region.ready .any ops listed → YieldsIf P ops S oi v a → S w →
      OrdF P ops Q S f fuel (listed.setIfInBounds i true) (a.put oi.dst v) w → OrdF P ops Q S f (fuel + 1) listed a w := by
  intro fuel
  induction fuel with
  | zero =>
    intro listed a w _ hr hy hS H
    refine ⟨fun h => absurd hr (by rw [h]; simp), fun j hj => ?_⟩
    by_cases e : j = i
    · subst e; exact hy.wpOp hi hS ⟨fun _ => hS, H⟩
    · exact absurd (ready_mono hj e) (by rw [H.1]; simp)
  | succ fuel ih =>
    intro listed a w hfree hr hy hS H
    refine ⟨fun h => absurd hr (by rw [h]; simp), fun j hj => ?_⟩
    by_cases e : j = i
    · subst e; exact hy.wpOp hi hS ⟨fun _ => hS, H⟩
    · obtain ⟨hjun, oj, hoj, hall⟩ := mem_ready.1 hj
      have hiun := (mem_ready.1 hr).1
      have hlit : ∀ b, listed.getD i b = false ∨ listed.getD i b = b := fun b => by
        rcases Nat.lt_or_ge i listed.size with h' | h'
        · left
          have : listed.getD i true = listed[i] := by simp [h']
          rw [this] at hiun
          simp [h', hiun]
        · right; simp [Array.getElem?_eq_none h']
      have hoff : listed.getD i false = false := by rcases hlit false with h | h <;> exact h
      have hnot : ∀ e ∈ oj.after, Region.binds .any e = true → e.on ≠ i := fun x hx hb hxi => by
        have := hall x hx hb
        rw [hxi, hoff] at this
        cases this
      have hjf : j ≠ f := fun h => by
        subst h
        obtain ⟨x, hx, hb, hxi⟩ := hw
        obtain rfl : oj = lo := by rw [hf] at hoj; exact (Option.some.inj hoj).symm
        exact hnot x hx hb hxi
      have h2 := wpOp_putIf hoj (hfree j oj hoj e hjun hnot) (fun cs b => hsel i oi cs b hi) (fun cs b => hsel j oj cs b hoj) hQ hy (H.2 j (ready_mono hj e))
      refine wpOp_mono (fun a' w' h3 => ⟨fun _ => h3.2.1 hjf, ih (listed.setIfInBounds j true) a' w' (fun k ok hk hki hun hno => ?_) (ready_mono hr (Ne.symm e)) h3.1 (h3.2.1 hjf) ?_⟩) h2
      · refine hfree k ok hk hki ?_ hno
        by_cases hjk : j = k
        · subst hjk; exact hjun
        · rwa [getD_set_ne true hjk] at hun
      · rw [Array.setIfInBounds_comm _ _ e]
        exact h3.2.2

theorem OrdF.take (f i : Nat) {oi lo : Oper} {v : Value} {fuel : Nat} {listed : Array Bool} {a : Act} {w : World} (hi : ops[i]? = some oi) (hf : ops[f]? = some lo) (hs : Region.noSelect ops = true) (hfr : Region.free .any ops listed i = true)
    (hr : (Region.ready .any ops listed).contains i = true) (hw : (lo.after.any fun e => Region.binds .any e && e.on == i) = true) (hne : (i == f) = false) (hQ : ∀ c a w, Q (.panic c) (a.put oi.dst v) w → Q (.panic c) a w)
    (hy : YieldsIf P ops S oi v a) (hS : S w) (h : OrdF P ops Q S f fuel (listed.setIfInBounds i true) (a.put oi.dst v) w) : OrdF P ops Q S f (fuel + 1) listed a w :=
  OrdF.first hi hf (by
    rw [← Array.any_toList, List.any_eq_true] at hw
    obtain ⟨e, he, hb⟩ := hw
    simp only [Bool.and_eq_true, beq_iff_eq] at hb
    exact ⟨e, by simpa using he, hb.1, hb.2⟩) (by simpa using hne) (Region.noSelect_spec hs) hQ fuel listed a w (Region.free_spec hi hfr) (by simpa using hr) hy hS h

/-- The only one that may come up. -/
theorem OrdF.one (f i : Nat) {o : Oper} {fuel : Nat} {listed : Array Bool} {a : Act} {w : World} (hi : ops[i]? = some o) (hr : Region.ready .any ops listed = [i]) (hw : Region.wanted o (yielded ops a.tmps) = true)
    (h : ∀ K : Act → World → Prop, (∀ a' w', (i ≠ f → S w') → OrdF P ops Q S f fuel (listed.setIfInBounds i true) a' w' → K a' w') → o.wp P a w K Q) : OrdF P ops Q S f (fuel + 1) listed a w := by
  refine ⟨fun h0 => absurd h0 (by rw [hr]; simp), fun j hj => ?_⟩
  rw [hr] at hj
  obtain rfl : j = i := by simpa using hj
  unfold wpOp
  simp only [hi, hw, if_true]
  exact .inl (h _ fun a' w' h1 h2 => ⟨h1, h2⟩)

theorem OrdF.done {f : Nat} {listed : Array Bool} {a : Act} {w : World} (hr : Region.ready .any ops listed = []) (h : Q .normal a w) : ∀ fuel, OrdF P ops Q S f fuel listed a w
  | 0 => ⟨hr, h⟩
  | _ + 1 => ⟨fun _ => h, by rw [hr]; simp⟩

/-- The beginning. -/
theorem wp_region_F (S : World → Prop) (f : Nat) {id : Nat} {a : Act} {w : World} (hm : P.follows .mixedOrders = true) (hS : S w.drew) (h : S w.drew → OrdF P ops (NoPanic Q) S f ops.size (Array.replicate ops.size false) a w.drew) : (Code.region id ops true).wp P Q a w :=
  wp_region_noPanic (wp_region_any hm (OrdF.any _ _ _ _ (h hS)))
end
end Go.Proofs.Qxb6600184a
