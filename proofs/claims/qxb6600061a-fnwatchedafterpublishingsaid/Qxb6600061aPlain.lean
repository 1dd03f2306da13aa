/-
  PLAIN LAWS (seat 061a; no Go): how many of the first k pass a test, and which place the next one takes among those that pass.
-/
namespace Go.Proofs.Qxb6600061a

/-- How many of the first k elements pass. -/
def cnt {α : Type} (p : α → Bool) (l : List α) (k : Nat) : Nat := ((l.take k).filter p).length

theorem cnt_zero {α : Type} (p : α → Bool) (l : List α) : cnt p l 0 = 0 := by simp [cnt]

theorem split_at {α : Type} (l : List α) (k : Nat) (hk : k < l.length) : l.take (k + 1) = l.take k ++ [l[k]] := by
  rw [List.take_add_one, List.getElem?_eq_getElem hk]; rfl

theorem cnt_pos {α : Type} (p : α → Bool) (l : List α) (k : Nat) (hk : k < l.length) (hp : p l[k] = true) : cnt p l (k + 1) = cnt p l k + 1 := by
  unfold cnt
  rw [split_at l k hk, List.filter_append]
  simp [hp]

theorem cnt_neg {α : Type} (p : α → Bool) (l : List α) (k : Nat) (hk : k < l.length) (hp : p l[k] = false) : cnt p l (k + 1) = cnt p l k := by
  unfold cnt
  rw [split_at l k hk, List.filter_append]
  simp [hp]

theorem cnt_all {α : Type} (p : α → Bool) (l : List α) : cnt p l l.length = (l.filter p).length := by simp [cnt]

theorem cnt_le {α : Type} (p : α → Bool) (l : List α) (k : Nat) : cnt p l k ≤ k := by
  unfold cnt
  exact Nat.le_trans (List.length_filter_le _ _) (by simp; omega)

theorem filter_at {α : Type} (p : α → Bool) (l : List α) (k : Nat) (hk : k < l.length) (hp : p l[k] = true) : (l.filter p)[cnt p l k]? = some l[k] := by
  have e : l = l.take k ++ l[k] :: l.drop (k + 1) := by simp
  have e2 : l.filter p = (l.take k).filter p ++ l[k] :: (l.drop (k + 1)).filter p := by
    conv => lhs; rw [e]
    rw [List.filter_append, List.filter_cons_of_pos hp]
  rw [e2]
  unfold cnt
  simp

theorem cnt_lt {α : Type} (p : α → Bool) (l : List α) (k : Nat) (hk : k < l.length) (hp : p l[k] = true) : cnt p l k < (l.filter p).length := by
  have := filter_at p l k hk hp
  exact (List.getElem?_eq_some_iff.1 this).1

theorem filter_take {α : Type} (p : α → Bool) (l : List α) (k : Nat) (hk : k < l.length) (hp : p l[k] = true) : (l.take (k + 1)).filter p = (l.take k).filter p ++ [l[k]] := by
  rw [split_at l k hk, List.filter_append]
  simp [hp]
theorem filter_take' {α : Type} (p : α → Bool) (l : List α) (k : Nat) (hk : k < l.length) (hp : p l[k] = false) : (l.take (k + 1)).filter p = (l.take k).filter p := by
  rw [split_at l k hk, List.filter_append]
  simp [hp]
end Go.Proofs.Qxb6600061a
