/-
  layOut, walked.
-/
import Derived.Test.Qxb6600184aSized
import Derived.Deep.RegionHeld3
import Derived.Deep.DrawnRows
import Derived.Test.Qxb6600184aFinal
import Derived.Test.Qxb6600184aByPlain
attribute [local go_sem ↓] Go.wp_at_zero Go.wp_at_succ
namespace Go.Proofs.Qxb6600184a
open Go.RowKit
set_option linter.unusedSimpArgs false

/-- A row of n cells by a function of the index. -/
def rowL (n : Nat) (f : Nat → Value) : List Value := (List.range n).map f
theorem rowL_len (n : Nat) (f : Nat → Value) : (rowL n f).length = n := by simp [rowL]
theorem rowL_get (n : Nat) (f : Nat → Value) {i : Nat} (h : i < n) : (rowL n f)[i]? = some (f i) := by simp [rowL, h]
theorem rowL_set (n : Nat) (f g : Nat → Value) (i : Nat) (v : Value) (h : ∀ j, j < n → (if j = i then v else f j) = g j) : (rowL n f).set i v = rowL n g := by
  apply List.ext_getElem?
  intro j
  by_cases hj : j < n
  · rw [List.getElem?_set, rowL_get n g hj, ← h j hj]
    by_cases e : i = j
    · subst e; simp [rowL_len, hj]
    · rw [if_neg e, rowL_get n f hj, if_neg (fun e' => e e'.symm)]
  · rw [List.getElem?_eq_none (by simp [rowL_len]; omega), List.getElem?_eq_none (by simp [rowL_len]; omega)]
theorem rowL_rep (n : Nat) (v : Value) : List.replicate n v = rowL n (fun _ => v) := by
  apply List.ext_getElem?
  intro j
  by_cases hj : j < n
  · simp [rowL, hj]
  · rw [List.getElem?_eq_none (by simp; omega), List.getElem?_eq_none (by simp [rowL_len]; omega)]

def pre (cf : Nat → Nat) (k i : Nat) : Nat := if i ≤ k then sumTo cf i else cf i

theorem pre_next (cf : Nat → Nat) (k j : Nat) (x : Int) (hx : x = (sumTo cf (k + 1) : Nat)) : (if j = k + 1 then Value.int .i64 x else .int .i64 (pre cf k j : Nat)) = .int .i64 (pre cf (k + 1) j : Nat) := by
  unfold pre
  by_cases e : j = k + 1
  · subst e; rw [if_pos rfl, if_pos (Nat.le_refl _), hx]
  · rw [if_neg e]
    by_cases h : j ≤ k
    · rw [if_pos h, if_pos (by omega)]
    · rw [if_neg h, if_neg (by omega)]

theorem upd_upd (E : Nat → Ent) (i : Nat) (x y : Ent) : upd (upd E i x) i y = upd E i y := by funext j; simp only [upd]; split <;> rfl

/-- A store into an own row of ints, said by index. -/
theorem LS.storeRow {w : World} {L : Nat} {E : Nat → Ent} {c0 c1 : Value} {o g n c : Nat} {f f' : Nat → Value} (h : LS w L (upd E o (lsRow g n c (rowL n f))) c0 c1) (h1 : 2 ≤ o) (h2 : o < 11) (j : Nat) (x : Value) (hf : ∀ i, i < n → (if i = j then x else f i) = f' i) :
    LS (w.setCell ⟨g, j, none⟩ x) L (upd E o (lsRow g n c (rowL n f'))) c0 c1 ∧ Step w (w.setCell ⟨g, j, none⟩ x) L (upd E o (lsRow g n c (rowL n f))) (upd E o (lsRow g n c (rowL n f'))) := by
  have := h.store (i := o) h1 h2 (g := g) (n := n) (c := c) (by rw [upd_same]; rfl) (j := j) x
  rw [upd_upd, upd_same] at this
  have e : { lsRow g n c (rowL n f) with xs := (lsRow g n c (rowL n f)).xs.set j x } = lsRow g n c (rowL n f') := by
    simp only [lsRow]; rw [rowL_set n f f' j x hf]
  rw [e] at this
  exact this

theorem LS.readRow {w : World} {L : Nat} {E : Nat → Ent} {c0 c1 : Value} {o g n c : Nat} {f : Nat → Value} (h : LS w L E c0 c1) (h1 : 2 ≤ o) (h2 : o < 11) (he : E o = lsRow g n c (rowL n f)) {j : Nat} (hj : j < n) : w.cell? ⟨g, j, none⟩ = some (f j) ∧ w.frozen? ⟨g, j, none⟩ = false := by
  have := h.own o h1 h2
  rw [he] at this
  exact ownsRow_read this (rowL_get n f hj)

theorem slice_head {w : World} {base : Nat} {e : TypeId} {a : Option Addr} {m0 c : Nat} {xs : List Value} (h : w.ownsRow base e 1 (.slice a m0 c) m0 xs) (m T : Nat) (hT : T ≤ c) (W : World) :
    (Instr.slice 22 (.slice a m c) none (some (.int .i64 (T : Int))) none).run Try.prog W = .ok (.slice a T c) W := by
  rw [run_slice_h W 22 a m c Try.underlying22 .i64 (T : Int) (by omega) (by omega)]
  have : (sizeOf (Try.prog.elem 22)).run Try.prog W = .ok 1 W := by kernel_rfl
  rw [this]
  rcases h.2 with ⟨e, _⟩ | ⟨g', cap, cur, hv', _⟩
  · simp only [Value.slice.injEq] at e
    obtain ⟨rfl, _, _⟩ := e
    simp [sliced, Result.andThen]
  · simp only [Value.slice.injEq] at hv'
    obtain ⟨rfl, _, _⟩ := hv'
    simp [sliced, Result.andThen, Addr.add]

theorem ownsRow_shape2 {w : World} {base : Nat} {e : TypeId} {size : Nat} {v : Value} {n : Nat} {xs : List Value} (h : w.ownsRow base e size v n xs) : ∃ a c, v = .slice a n c := by
  rcases h.2 with ⟨rfl, rfl⟩ | ⟨g, cap, cur, rfl, _⟩
  · exact ⟨none, 0, rfl⟩
  · exact ⟨_, _, rfl⟩

/-- clear, whatever the length. -/
theorem clear_any {w : World} {base n c : Nat} {a : Option Addr} {xs : List Value} (h : w.ownsRow base 3 1 (.slice a n c) n xs) :
    ∃ w', (∀ ty, (Builtin.clear_ #[22] ty #[.slice a n c]).run Try.prog w = .ok (.tuple #[]) w') ∧ w'.ownsRow base 3 1 (.slice a n c) n (rowL n (fun _ => .int .i64 0)) ∧ w.grownBy w' (Value.ownBlock (.slice a n c)) := by
  by_cases hn : n = 0
  · subst hn
    have : xs = [] := List.eq_nil_of_length_eq_zero (by simpa using h.1)
    subst this
    refine ⟨w, fun ty => ?_, h, ⟨rfl, rfl, rfl, Nat.le_refl _, fun _ _ _ => rfl⟩⟩
    cases a <;> simp [Builtin.clear_, run_underlying Try.underlying22]
  · rcases h.2 with ⟨e, _⟩ | ⟨g', cap, cur, hv', _⟩
    · simp only [Value.slice.injEq] at e; omega
    · simp only [Value.slice.injEq] at hv'
      obtain ⟨rfl, _, rfl⟩ := hv'
      obtain ⟨h1, h2, h3⟩ := clear_own h (by omega)
      exact ⟨_, h1, by rw [← rowL_rep]; exact h2, h3⟩

theorem ownBlock_of (a : Option Addr) (n c n2 c2 : Nat) : (Value.slice a n c).ownBlock = (Value.slice a n2 c2).ownBlock := by cases a <;> rfl
theorem hid1 {p : Prop} (h : p) : Hid p := h

/-- Behind layOut: the starts are sums, the items have room for all, nothing is filled. -/
def Laid (w : World) (L o n : Nat) (cf : Nat → Nat) (g c : Nat) (E : Nat → Ent) (c0 c1 : Value) (w' : World) : Prop :=
  ∃ (E' : Nat → Ent) (ai : Option Addr) (ci : Nat) (xi : List Value) (af : Option Addr) (cfl : Nat), LS w' L E' c0 c1 ∧ Step w w' L E E' ∧ E' o = lsRow g (n + 1) c (rowL (n + 1) (fun i => .int .i64 (sumTo cf i : Nat))) ∧
    E' (o + 1) = ⟨3, 1, .slice ai (sumTo cf n) ci, sumTo cf n, xi⟩ ∧ E' (o + 2) = ⟨3, 1, .slice af n cfl, n, rowL n (fun _ => .int .i64 0)⟩ ∧ ∀ j, j ≠ o → j ≠ o + 1 → j ≠ o + 2 → E' j = E j

set_option maxHeartbeats 3200000 in
theorem layOut_any (w : World) (L o n g c : Nat) (cf : Nat → Nat) (E : Nat → Ent) (c0 c1 : Value) (h : LS w L E c0 c1) (ho1 : 2 ≤ o) (ho2 : o + 2 < 11) (hE : E o = lsRow g (n + 1) c (rowL (n + 1) (fun i => .int .i64 (cf i : Nat))))
    (e1 : (E (o + 1)).e = 3 ∧ (E (o + 1)).sz = 1) (e2 : (E (o + 2)).e = 3 ∧ (E (o + 2)).sz = 1) (hn : n ≤ 1048575) (hT : sumTo cf n ≤ 1048575) :
    Calls Try.prog 31 #[.pointer (some ⟨L, o, none⟩)] w fun e w' => e = .returned (.tuple #[]) ∧ Laid w L o n cf g c E c0 c1 w' := by
  have q0 := h.cellE ho1 (show o < 11 by omega)
  rw [hE] at q0
  simp only [lsRow] at q0
  go_enter Try.func31, Try.ntmps31
  go_wp2
  clear q0
  go_loopg [12] n (fun gh i wr => ∃ k : Nat, k ≤ n ∧ gh = n - k ∧ i = .int .i64 k ∧ LS wr L (upd E o (lsRow g (n + 1) c (rowL (n + 1) (fun i => .int .i64 (pre cf k i : Nat))))) c0 c1 ∧ Step w wr L E (upd E o (lsRow g (n + 1) c (rowL (n + 1) (fun i => .int .i64 (pre cf k i : Nat))))))
  case atStart =>
    have e : upd E o (lsRow g (n + 1) c (rowL (n + 1) (fun i => .int .i64 (pre cf 0 i : Nat)))) = E := by
      funext j
      by_cases ej : j = o
      · subst ej
        rw [upd_same, hE]
        have : (fun i => Value.int .i64 (pre cf 0 i : Nat)) = fun i => .int .i64 (cf i : Nat) := by
          funext i; unfold pre; split
          · have : i = 0 := by omega
            subst this; rfl
          · rfl
        rw [this]
      · rw [upd_other _ _ ej]
    exact ⟨0, Nat.zero_le _, rfl, rfl, by rw [e]; exact h, by rw [e]; exact Step.refl _ _ _⟩
  case round =>
    obtain ⟨k, hk, hgk, rfl, hL, hS⟩ := hrel
    have q0 := hL.cellE ho1 (show o < 11 by omega)
    rw [upd_same] at q0
    simp only [lsRow] at q0
    by_cases hlt : k < n
    · obtain ⟨p1, _⟩ := hL.readRow ho1 (by omega) (upd_same _ _ _) (j := k) (by omega)
      obtain ⟨p2, p3⟩ := hL.readRow ho1 (by omega) (upd_same _ _ _) (j := k + 1) (by omega)
      have x1 : pre cf k k = sumTo cf k := by unfold pre; rw [if_pos (Nat.le_refl _)]
      have x2 : pre cf k (k + 1) = cf (k + 1) := by unfold pre; rw [if_neg (by omega)]
      rw [x1] at p1
      rw [x2] at p2
      have b1 := sumTo_le cf (show k + 1 ≤ n by omega)
      have b2 : Hid (sumTo cf (k + 1) = sumTo cf k + cf (k + 1)) := rfl
      have b3 : sumTo cf k + cf (k + 1) ≤ 1048575 := by have := b2.out; omega
      have hz1 : (k : Int) + 1 < ((n : Int) + 1) := by omega
      have hz2 : (k : Int) < ((n : Int) + 1) := by omega
      clear x1 x2
      go_wp2
      go_region
      go_wp2
      go_roundg (n - (k + 1))
      case measure => go_light; omega
      case rel =>
        go_light
        obtain ⟨a1, a2⟩ := hL.storeRow ho1 (by omega) (k + 1) (.int .i64 ((cf (k + 1) : Int) + (sumTo cf k : Int))) (f' := fun i => .int .i64 (pre cf (k + 1) i : Nat)) (fun i _ => pre_next cf k i _ (by have := b2.out; omega))
        obtain ⟨a3, a4⟩ := a1.drew
        exact ⟨k + 1, by omega, rfl, by go_num, a3, (hS.trans a2).trans a4⟩
    · have e : k = n := by omega
      subst e
      obtain ⟨p1, _⟩ := hL.readRow ho1 (by omega) (upd_same _ _ _) (j := k) (by omega)
      have x1 : pre cf k k = sumTo cf k := by unfold pre; rw [if_pos (Nat.le_refl _)]
      rw [x1] at p1
      have hz2 : (k : Int) < ((k : Int) + 1) := by omega
      obtain ⟨E1, hE1⟩ : ∃ E1, E1 = upd E o (lsRow g (k + 1) c (rowL (k + 1) (fun i => .int .i64 (pre cf k i : Nat)))) := ⟨_, rfl⟩
      rw [← hE1] at hL hS
      have f1 : E1 o = lsRow g (k + 1) c (rowL (k + 1) (fun i => .int .i64 (pre cf k i : Nat))) := by rw [hE1, upd_same]
      have f2 : ∀ j, j ≠ o → E1 j = E j := fun j hj => by rw [hE1, upd_other _ _ hj]
      have F : Hid (E1 o = lsRow g (k + 1) c (rowL (k + 1) (fun i => .int .i64 (pre cf k i : Nat))) ∧ ∀ j, j ≠ o → E1 j = E j) := ⟨f1, f2⟩
      have oi := hL.own (o + 1) (by omega) (by omega)
      rw [f2 (o + 1) (by omega), e1.1, e1.2] at oi
      obtain ⟨ai, ci, hvi⟩ : ∃ a c, (E (o + 1)).v = .slice a (E (o + 1)).n c := ownsRow_shape2 oi
      have q1 := hL.cellE (i := o + 1) (by omega) (by omega)
      rw [f2 (o + 1) (by omega), hvi] at q1
      rw [hvi] at oi
      have oz := ownsRow_zero oi
      have sl0 := fun m => slice_head oz m 0 (Nat.zero_le _)
      simp only [Int.natCast_zero] at sl0
      have hlt0 := hL.lt
      have X1 : Hid (pre cf k k = sumTo cf k) := x1
      clear hE1 f1 f2 x1 oi hgk
      go_wp2
      refine wp_region_F (fun w' => w'.cell? ⟨L, o, none⟩ = some (.slice (some ⟨g, 0, none⟩) (k + 1) c) ∧ w'.cell? ⟨g, k, none⟩ = some (.int .i64 (sumTo cf k)) ∧ w'.cell? ⟨L, o + 1, none⟩ = some (.slice ai (E (o + 1)).n ci)) 28 (by kernel_rfl) (by simp only [World.cell?_drew]; exact ⟨q0, p1, q1⟩) (fun hHeld => ?_)
      refine OrdF.take 28 0 (v := ?_) rfl rfl (by kernel_rfl) (by kernel_rfl) (by kernel_rfl) (by kernel_rfl) rfl (fun _ _ _ h => h) (Or.inl ⟨by rfl, ?_⟩) hHeld ?_
      rotate_left
      · intro w hSw; (try dsimp only at hSw); go_simp <;> with_reducible rfl
      simp only [Act.put, List.setIfInBounds_toArray, List.set_cons_zero, List.set_cons_succ]
      refine OrdF.take 28 1 (v := ?_) rfl rfl (by kernel_rfl) (by kernel_rfl) (by kernel_rfl) (by kernel_rfl) rfl (fun _ _ _ h => h) (Or.inl ⟨by rfl, ?_⟩) hHeld ?_
      rotate_left
      · intro w hSw; (try dsimp only at hSw); go_simp <;> with_reducible rfl
      simp only [Act.put, List.setIfInBounds_toArray, List.set_cons_zero, List.set_cons_succ]
      refine OrdF.take 28 2 (v := ?_) rfl rfl (by kernel_rfl) (by kernel_rfl) (by kernel_rfl) (by kernel_rfl) rfl (fun _ _ _ h => h) (Or.inl ⟨by rfl, ?_⟩) hHeld ?_
      rotate_left
      · intro w hSw; (try dsimp only at hSw); go_simp <;> with_reducible rfl
      simp only [Act.put, List.setIfInBounds_toArray, List.set_cons_zero, List.set_cons_succ]
      refine OrdF.take 28 3 (v := ?_) rfl rfl (by kernel_rfl) (by kernel_rfl) (by kernel_rfl) (by kernel_rfl) rfl (fun _ _ _ h => h) (Or.inl ⟨by rfl, ?_⟩) hHeld ?_
      rotate_left
      · intro w hSw; (try dsimp only at hSw); go_simp <;> with_reducible rfl
      simp only [Act.put, List.setIfInBounds_toArray, List.set_cons_zero, List.set_cons_succ]
      refine OrdF.take 28 4 (v := ?_) rfl rfl (by kernel_rfl) (by kernel_rfl) (by kernel_rfl) (by kernel_rfl) rfl (fun _ _ _ h => h) (Or.inl ⟨by rfl, ?_⟩) hHeld ?_
      rotate_left
      · intro w hSw; (try dsimp only at hSw); go_simp <;> with_reducible rfl
      simp only [Act.put, List.setIfInBounds_toArray, List.set_cons_zero, List.set_cons_succ]
      refine OrdF.take 28 5 (v := ?_) rfl rfl (by kernel_rfl) (by kernel_rfl) (by kernel_rfl) (by kernel_rfl) rfl (fun _ _ _ h => h) (Or.inl ⟨by rfl, ?_⟩) hHeld ?_
      rotate_left
      · intro w hSw; (try dsimp only at hSw); go_simp <;> with_reducible rfl
      simp only [Act.put, List.setIfInBounds_toArray, List.set_cons_zero, List.set_cons_succ]
      refine OrdF.take 28 6 (v := ?_) rfl rfl (by kernel_rfl) (by kernel_rfl) (by kernel_rfl) (by kernel_rfl) rfl (fun _ _ _ h => h) (Or.inl ⟨by rfl, ?_⟩) hHeld ?_
      rotate_left
      · intro w hSw; (try dsimp only at hSw); go_simp <;> with_reducible rfl
      simp only [Act.put, List.setIfInBounds_toArray, List.set_cons_zero, List.set_cons_succ]
      refine OrdF.take 28 7 (v := ?_) rfl rfl (by kernel_rfl) (by kernel_rfl) (by kernel_rfl) (by kernel_rfl) rfl (fun _ _ _ h => h) (Or.inl ⟨by rfl, ?_⟩) hHeld ?_
      rotate_left
      · intro w hSw; (try dsimp only at hSw); go_simp <;> with_reducible rfl
      simp only [Act.put, List.setIfInBounds_toArray, List.set_cons_zero, List.set_cons_succ]
      refine OrdF.take 28 8 (v := ?_) rfl rfl (by kernel_rfl) (by kernel_rfl) (by kernel_rfl) (by kernel_rfl) rfl (fun _ _ _ h => h) (Or.inl ⟨by rfl, ?_⟩) hHeld ?_
      rotate_left
      · intro w hSw; (try dsimp only at hSw); go_simp <;> with_reducible rfl
      simp only [Act.put, List.setIfInBounds_toArray, List.set_cons_zero, List.set_cons_succ]
      refine OrdF.take 28 9 (v := ?_) rfl rfl (by kernel_rfl) (by kernel_rfl) (by kernel_rfl) (by kernel_rfl) rfl (fun _ _ _ h => h) (Or.inl ⟨by rfl, ?_⟩) hHeld ?_
      rotate_left
      · intro w hSw; (try dsimp only at hSw); go_simp <;> with_reducible rfl
      simp only [Act.put, List.setIfInBounds_toArray, List.set_cons_zero, List.set_cons_succ]
      refine OrdF.take 28 10 (v := ?_) rfl rfl (by kernel_rfl) (by kernel_rfl) (by kernel_rfl) (by kernel_rfl) rfl (fun _ _ _ h => h) (Or.inl ⟨by rfl, ?_⟩) hHeld ?_
      rotate_left
      · intro w hSw; (try dsimp only at hSw); go_simp <;> with_reducible rfl
      simp only [Act.put, List.setIfInBounds_toArray, List.set_cons_zero, List.set_cons_succ]
      refine OrdF.take 28 11 (v := ?_) rfl rfl (by kernel_rfl) (by kernel_rfl) (by kernel_rfl) (by kernel_rfl) rfl (fun _ _ _ h => h) (Or.inl ⟨by rfl, ?_⟩) hHeld ?_
      rotate_left
      · intro w hSw; (try dsimp only at hSw); go_simp <;> with_reducible rfl
      simp only [Act.put, List.setIfInBounds_toArray, List.set_cons_zero, List.set_cons_succ]
      refine OrdF.take 28 12 (v := ?_) rfl rfl (by kernel_rfl) (by kernel_rfl) (by kernel_rfl) (by kernel_rfl) rfl (fun _ _ _ h => h) (Or.inl ⟨by rfl, ?_⟩) hHeld ?_
      rotate_left
      · intro w hSw; (try dsimp only at hSw); go_simp <;> with_reducible rfl
      simp only [Act.put, List.setIfInBounds_toArray, List.set_cons_zero, List.set_cons_succ]
      refine OrdF.take 28 13 (v := ?_) rfl rfl (by kernel_rfl) (by kernel_rfl) (by kernel_rfl) (by kernel_rfl) rfl (fun _ _ _ h => h) (Or.inl ⟨by rfl, ?_⟩) hHeld ?_
      rotate_left
      · intro w hSw; (try dsimp only at hSw); go_simp <;> with_reducible rfl
      simp only [Act.put, List.setIfInBounds_toArray, List.set_cons_zero, List.set_cons_succ]
      refine OrdF.take 28 14 (v := ?_) rfl rfl (by kernel_rfl) (by kernel_rfl) (by kernel_rfl) (by kernel_rfl) rfl (fun _ _ _ h => h) (Or.inl ⟨by rfl, ?_⟩) hHeld ?_
      rotate_left
      · intro w hSw; (try dsimp only at hSw); go_simp <;> with_reducible rfl
      simp only [Act.put, List.setIfInBounds_toArray, List.set_cons_zero, List.set_cons_succ]
      refine OrdF.take 28 16 (v := ?_) rfl rfl (by kernel_rfl) (by kernel_rfl) (by kernel_rfl) (by kernel_rfl) rfl (fun _ _ _ h => h) (Or.inl ⟨by rfl, ?_⟩) hHeld ?_
      rotate_left
      · intro w hSw; (try dsimp only at hSw); go_simp <;> with_reducible rfl
      simp only [Act.put, List.setIfInBounds_toArray, List.set_cons_zero, List.set_cons_succ]
      refine OrdF.take 28 17 (v := ?_) rfl rfl (by kernel_rfl) (by kernel_rfl) (by kernel_rfl) (by kernel_rfl) rfl (fun _ _ _ h => h) (Or.inl ⟨by rfl, ?_⟩) hHeld ?_
      rotate_left
      · intro w hSw; (try dsimp only at hSw); go_simp <;> with_reducible rfl
      simp only [Act.put, List.setIfInBounds_toArray, List.set_cons_zero, List.set_cons_succ]
      refine OrdF.take 28 18 (v := ?_) rfl rfl (by kernel_rfl) (by kernel_rfl) (by kernel_rfl) (by kernel_rfl) rfl (fun _ _ _ h => h) (Or.inl ⟨by rfl, ?_⟩) hHeld ?_
      rotate_left
      · intro w hSw; (try dsimp only at hSw); go_simp <;> with_reducible rfl
      simp only [Act.put, List.setIfInBounds_toArray, List.set_cons_zero, List.set_cons_succ]
      refine OrdF.take 28 19 (v := ?_) rfl rfl (by kernel_rfl) (by kernel_rfl) (by kernel_rfl) (by kernel_rfl) rfl (fun _ _ _ h => h) (Or.inl ⟨by rfl, ?_⟩) hHeld ?_
      rotate_left
      · intro w hSw; (try dsimp only at hSw); go_simp <;> with_reducible rfl
      simp only [Act.put, List.setIfInBounds_toArray, List.set_cons_zero, List.set_cons_succ]
      refine OrdF.take 28 20 (v := ?_) rfl rfl (by kernel_rfl) (by kernel_rfl) (by kernel_rfl) (by kernel_rfl) rfl (fun _ _ _ h => h) (Or.inl ⟨by rfl, ?_⟩) hHeld ?_
      rotate_left
      · intro w hSw; (try dsimp only at hSw); go_simp <;> with_reducible rfl
      simp only [Act.put, List.setIfInBounds_toArray, List.set_cons_zero, List.set_cons_succ]
      refine OrdF.take 28 21 (v := ?_) rfl rfl (by kernel_rfl) (by kernel_rfl) (by kernel_rfl) (by kernel_rfl) rfl (fun _ _ _ h => h) (Or.inl ⟨by rfl, ?_⟩) hHeld ?_
      rotate_left
      · intro w hSw; (try dsimp only at hSw); go_simp <;> with_reducible rfl
      simp only [Act.put, List.setIfInBounds_toArray, List.set_cons_zero, List.set_cons_succ]
      refine OrdF.take 28 22 (v := ?_) rfl rfl (by kernel_rfl) (by kernel_rfl) (by kernel_rfl) (by kernel_rfl) rfl (fun _ _ _ h => h) (Or.inl ⟨by rfl, ?_⟩) hHeld ?_
      rotate_left
      · intro w hSw; (try dsimp only at hSw); go_simp <;> with_reducible rfl
      simp only [Act.put, List.setIfInBounds_toArray, List.set_cons_zero, List.set_cons_succ]
      refine OrdF.take 28 23 (v := ?_) rfl rfl (by kernel_rfl) (by kernel_rfl) (by kernel_rfl) (by kernel_rfl) rfl (fun _ _ _ h => h) (Or.inl ⟨by rfl, ?_⟩) hHeld ?_
      rotate_left
      · intro w hSw; (try dsimp only at hSw); go_simp <;> with_reducible rfl
      simp only [Act.put, List.setIfInBounds_toArray, List.set_cons_zero, List.set_cons_succ]
      refine OrdF.one 28 15 rfl (by kernel_rfl) (by rfl) (fun K hK => ?_)
      go_simp
      refine (grow_any wr.drew (L + 1) ai ci (sumTo cf k) oz.drew (by omega) hlt0).mono ?_
      rintro e w1 ⟨a', c', rfl, hc', hown1, hg1, hloc⟩
      have HK := hK
      have r3 := (hL.drew.1.grown hg1).1.frozen (o + 1)
      have sl1 := fun m => slice_head hown1 m (sumTo cf k) hc'
      have H1 : w1.cell? ⟨L, o, none⟩ = some (.slice (some ⟨g, 0, none⟩) (k + 1) c) ∧ w1.cell? ⟨g, k, none⟩ = some (.int .i64 (sumTo cf k)) ∧ w1.cell? ⟨L, o + 1, none⟩ = some (.slice ai (E (o + 1)).n ci) := ⟨hg1.cell hHeld.1 (by simp), hg1.cell hHeld.2.1 (by simp), hg1.cell hHeld.2.2 (by simp)⟩
      have r4 := H1.2.2
      refine hK _ _ (fun _ => H1) ?_
      clear hK HK
      refine OrdF.take 28 24 (v := ?_) rfl rfl (by kernel_rfl) (by kernel_rfl) (by kernel_rfl) (by kernel_rfl) rfl (fun _ _ _ h => h) (Or.inl ⟨by rfl, ?_⟩) H1 ?_
      rotate_left
      · intro w hSw; (try dsimp only at hSw); go_simp <;> with_reducible rfl
      simp only [Act.put, List.setIfInBounds_toArray, List.set_cons_zero, List.set_cons_succ]
      refine OrdF.one 28 25 rfl (by kernel_rfl) (by rfl) (fun K hK => ?_)
      go_simp
      refine hK _ _ (fun _ => H1) ?_
      clear hK K
      refine OrdF.one 28 26 rfl (by kernel_rfl) (by rfl) (fun K hK => ?_)
      go_simp
      refine hK _ _ (fun _ => H1) ?_
      clear hK K
      refine OrdF.one 28 27 rfl (by kernel_rfl) (by rfl) (fun K hK => ?_)
      go_simp
      refine hK _ _ (fun _ => H1) ?_
      clear hK K
      refine OrdF.one 28 28 rfl (by kernel_rfl) (by rfl) (fun K hK => ?_)
      go_simp
      refine hK _ _ (fun h => absurd rfl h) (OrdF.done (by kernel_rfl) (NoPanic.normal ?_) _)
      clear hK
      obtain ⟨ys, hys⟩ := ownsRow_cap hown1 hc'
      have hloc' : ∀ b, (Value.slice a' (sumTo cf k) c').ownBlock = some b → (E1 (o + 1)).v.ownBlock = some b ∨ wr.drew.heap.size ≤ b := by
        intro b hb
        rcases hloc with ⟨e, _⟩ | ⟨g', e, hge⟩
        · left; rw [F.out.2 (o + 1) (by omega), hvi, ← e, ownBlock_of a' _ _ (sumTo cf k) c']; exact hb
        · right
          subst e
          simp only [Value.ownBlock, Option.some.injEq] at hb
          omega
      obtain ⟨h2, s2⟩ := hL.drew.1.field (i := o + 1) (by omega) (by omega) (w1 := w1) ⟨hg1.os, hg1.tape, hg1.output, hg1.size, fun k hk _ => hg1.block k hk (by simp)⟩ hys hloc'
      have s2' := (hS.trans hL.drew.2).trans s2
      generalize w1.setCell ⟨L, o + 1, none⟩ (Value.slice a' (sumTo cf k) c') = w2 at h2 s2 s2' ⊢
      have H2 : Hid (Step w w2 L E (upd E1 (o + 1) ⟨3, 1, .slice a' (sumTo cf k) c', sumTo cf k, ys⟩)) := s2'
      clear H1 r3 r4 sl1 hown1 hg1 hloc hloc' hys s2 s2' hL hS q0 q1 p1 oz sl0 hHeld hz2 hvi
      have g2 : upd E1 (o + 1) ⟨3, 1, .slice a' (sumTo cf k) c', sumTo cf k, ys⟩ (o + 2) = E (o + 2) := by rw [upd_other _ _ (by omega), F.out.2 (o + 2) (by omega)]
      have of_ := h2.own (o + 2) (by omega) (by omega)
      rw [g2, e2.1, e2.2] at of_
      obtain ⟨af, cfl, hvf⟩ : ∃ a c, (E (o + 2)).v = .slice a (E (o + 2)).n c := ownsRow_shape2 of_
      have q2 := h2.cellE (i := o + 2) (by omega) (by omega)
      rw [g2, hvf] at q2
      rw [hvf] at of_
      have oz := ownsRow_zero of_
      have sl0 := fun m => slice_head oz m 0 (Nat.zero_le _)
      simp only [Int.natCast_zero] at sl0
      have hlt2 := h2.lt
      have G2 := hid1 g2
      clear g2 of_
      go_wp2_with fail
      refine (grow_any w2 (L + 1) af cfl k oz (by omega) hlt2).mono ?_
      rintro e w3 ⟨a3, c3, rfl, hc3, hown3, hg3, hloc3⟩
      obtain ⟨zs, hzs⟩ := ownsRow_cap hown3 hc3
      have hloc3' : ∀ b, (Value.slice a3 k c3).ownBlock = some b → (upd E1 (o + 1) ⟨3, 1, .slice a' (sumTo cf k) c', sumTo cf k, ys⟩ (o + 2)).v.ownBlock = some b ∨ w2.heap.size ≤ b := by
        intro b hb
        rcases hloc3 with ⟨e, _⟩ | ⟨g', e, hge⟩
        · left; rw [G2.out, hvf, ← e, ownBlock_of a3 _ _ k c3]; exact hb
        · right
          subst e
          simp only [Value.ownBlock, Option.some.injEq] at hb
          omega
      obtain ⟨h4, s4⟩ := h2.field (i := o + 2) (by omega) (by omega) (w1 := w3) ⟨hg3.os, hg3.tape, hg3.output, hg3.size, fun k hk _ => hg3.block k hk (by simp)⟩ hzs hloc3'
      have ho := h4.own (o + 2) (by omega) (by omega)
      simp only [upd_same] at ho
      obtain ⟨w5, hcl, hz5, hgz⟩ := clear_any ho
      obtain ⟨h5, s5⟩ := h4.write (i := o + 2) (by omega) (by omega) (by rw [upd_same]; exact hgz) (by rw [upd_same]; exact hz5)
      have t0 := (h2.grown hg3).1.cellE (i := o + 2) (by omega) (by omega)
      rw [G2.out, hvf] at t0
      have t1 := (h2.grown hg3).1.frozen (o + 2)
      have sl1 := fun m => slice_head hown3 m k hc3
      have HF : Hid (LS w5 L _ c0 c1 ∧ Step w w5 L E _) := ⟨h5, (H2.out.trans s4).trans s5⟩
      clear h5 s5 s4 h4 hz5 hgz ho hzs hloc3 hloc3' hown3 hg3 oz sl0 q2 H2
      go_wp2
      go_end0
      refine ⟨rfl, ?_⟩
      obtain ⟨h5, s5⟩ := HF.out
      rw [upd_upd] at h5 s5
      refine ⟨_, a', c', ys, a3, c3, h5, s5, ?_, ?_, ?_, ?_⟩
      · rw [upd_other _ _ (by omega), upd_other _ _ (by omega), F.out.1]
        unfold lsRow
        congr 1
        unfold rowL
        refine List.map_congr_left fun i hi => ?_
        have : i < k + 1 := by simpa using hi
        unfold pre
        rw [if_pos (by omega)]
      · rw [upd_other _ _ (by omega), upd_same]
      · rw [upd_same, upd_same]
      · intro j j0 j1 j2
        rw [upd_other _ _ j2, upd_other _ _ j1, F.out.2 j j0]
end Go.Proofs.Qxb6600184a
