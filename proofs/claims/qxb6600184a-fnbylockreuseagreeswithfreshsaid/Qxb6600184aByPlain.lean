/-
  byLock without Go: the distinct names in the order of their first; the lists by key.
-/
namespace Go.Proofs.Qxb6600184a

section
variable {α : Type} [DecidableEq α]

/-- The distinct ones among the first j names, in the order of the first. -/
def dst (N : Nat → α) : Nat → List α
  | 0 => []
  | j + 1 => if N j ∈ dst N j then dst N j else dst N j ++ [N j]

theorem dst_old {N : Nat → α} {j : Nat} (h : N j ∈ dst N j) : dst N (j + 1) = dst N j := by simp [dst, h]
theorem dst_new {N : Nat → α} {j : Nat} (h : ¬ N j ∈ dst N j) : dst N (j + 1) = dst N j ++ [N j] := by simp [dst, h]

theorem dst_len (N : Nat → α) : ∀ j, (dst N j).length ≤ j
  | 0 => Nat.le_refl _
  | j + 1 => by
    have := dst_len N j
    by_cases h : N j ∈ dst N j
    · rw [dst_old h]; omega
    · rw [dst_new h]; simp; omega

theorem dst_mem (N : Nat → α) (j : Nat) : N j ∈ dst N (j + 1) := by
  by_cases h : N j ∈ dst N j
  · rw [dst_old h]; exact h
  · rw [dst_new h]; simp

theorem idx_app (l m : List α) (x : α) (h : x ∈ l) : (l ++ m).idxOf x = l.idxOf x := by
  induction l with
  | nil => cases h
  | cons y r ih =>
    simp only [List.cons_append, List.idxOf_cons]
    by_cases e : y = x
    · subst e; simp
    · have hr : x ∈ r := by
        cases h with
        | head => exact absurd rfl e
        | tail _ h => exact h
      simp [beq_false_of_ne e, ih hr]

theorem idx_lt (l : List α) (x : α) (h : x ∈ l) : l.idxOf x < l.length := List.idxOf_lt_length_of_mem h

theorem idx_end (l : List α) (x : α) (h : ¬ x ∈ l) : (l ++ [x]).idxOf x = l.length := by
  induction l with
  | nil => simp
  | cons y r ih =>
    have hy : ¬ y = x := fun e => h (by rw [e]; exact List.mem_cons_self)
    have hr : ¬ x ∈ r := fun e => h (List.mem_cons_of_mem _ e)
    simp only [List.cons_append, List.idxOf_cons, List.length_cons, beq_false_of_ne hy, cond_false, ih hr]

/-- The key of name j. -/
def kw (N : Nat → α) (j : Nat) : Nat := (dst N (j + 1)).idxOf (N j)

theorem dst_pre (N : Nat → α) (j : Nat) : ∀ d, ∃ r, dst N (j + d) = dst N j ++ r
  | 0 => ⟨[], by simp⟩
  | d + 1 => by
    obtain ⟨r, hr⟩ := dst_pre N j d
    by_cases h : N (j + d) ∈ dst N (j + d)
    · exact ⟨r, by rw [← Nat.add_assoc, dst_old h, hr]⟩
    · exact ⟨r ++ [N (j + d)], by rw [← Nat.add_assoc, dst_new h, hr, List.append_assoc]⟩

theorem dst_sub {N : Nat → α} {i j : Nat} (h : i ≤ j) {x : α} (hx : x ∈ dst N i) : x ∈ dst N j := by
  obtain ⟨r, hr⟩ := dst_pre N i (j - i)
  rw [show i + (j - i) = j by omega] at hr
  rw [hr]
  exact List.mem_append_left _ hx

theorem idx_stable {N : Nat → α} {i j : Nat} (h : i ≤ j) {x : α} (hx : x ∈ dst N i) : (dst N j).idxOf x = (dst N i).idxOf x := by
  obtain ⟨r, hr⟩ := dst_pre N i (j - i)
  rw [show i + (j - i) = j by omega] at hr
  rw [hr, idx_app _ _ _ hx]

theorem kw_old {N : Nat → α} {j : Nat} (h : N j ∈ dst N j) : kw N j = (dst N j).idxOf (N j) := by unfold kw; rw [dst_old h]
theorem kw_new {N : Nat → α} {j : Nat} (h : ¬ N j ∈ dst N j) : kw N j = (dst N j).length := by unfold kw; rw [dst_new h, idx_end _ _ h]
theorem kw_lt {N : Nat → α} {j n : Nat} (h : j < n) : kw N j < (dst N n).length := by
  have h1 := idx_lt _ _ (dst_mem N j)
  obtain ⟨r, hr⟩ := dst_pre N (j + 1) (n - (j + 1))
  rw [show j + 1 + (n - (j + 1)) = n by omega] at hr
  rw [hr, List.length_append]
  unfold kw
  omega

/-- The place of x in l. -/
def plc (l : List α) (x : α) : Nat := l.idxOf x
theorem plc_lt {l : List α} {x : α} (h : x ∈ l) : plc l x < l.length := idx_lt l x h
theorem kw_plc {N : Nat → α} {j : Nat} (h : N j ∈ dst N j) : kw N j = plc (dst N j) (N j) := kw_old h
theorem plc_kw {N : Nat → α} {j n : Nat} (h : j < n) : plc (dst N n) (N j) = kw N j := idx_stable (show j + 1 ≤ n by omega) (dst_mem N j)
/-- Name j is new. -/
def isNew (N : Nat → α) (j : Nat) : Bool := decide (¬ N j ∈ dst N j)
theorem isNew_old {N : Nat → α} {j : Nat} (h : N j ∈ dst N j) : isNew N j = false := by simp [isNew, h]
theorem isNew_new {N : Nat → α} {j : Nat} (h : ¬ N j ∈ dst N j) : isNew N j = true := by simp [isNew, h]
theorem isNew_true {N : Nat → α} {j : Nat} (h : isNew N j = true) : ¬ N j ∈ dst N j := by simpa [isNew] using h
theorem isNew_false {N : Nat → α} {j : Nat} (h : isNew N j = false) : N j ∈ dst N j := by simpa [isNew] using h

/-- The place of x in l, or -1. -/
def keyIn (l : List α) (x : α) : Int := if x ∈ l then (l.idxOf x : Nat) else -1
theorem keyIn_mem {l : List α} {x : α} (h : x ∈ l) : keyIn l x = (plc l x : Nat) := by simp [keyIn, h, plc]
theorem keyIn_not {l : List α} {x : α} (h : ¬ x ∈ l) : keyIn l x = -1 := by simp [keyIn, h]
theorem keyIn_lt (l : List α) (x : α) : keyIn l x < (l.length : Int) := by
  by_cases h : x ∈ l
  · rw [keyIn_mem h]; have := plc_lt h; omega
  · rw [keyIn_not h]; omega
/-- What a map holds that has taken in the names l, with a number c, over g. -/
def over (l : List α) (c : Int) (g : α → Option (Int × Int)) (s : α) : Option (Int × Int) := if s ∈ l then some (c, ((l.idxOf s : Nat) : Int)) else g s
theorem over_mem {l : List α} {c : Int} {g : α → Option (Int × Int)} {s : α} (h : s ∈ l) : over l c g s = some (c, (plc l s : Int)) := by simp [over, h, plc]
/-- What the map holds behind a new name. -/
theorem over_not {l : List α} {c : Int} {g : α → Option (Int × Int)} {s : α} (h : ¬ s ∈ l) : over l c g s = g s := by simp [over, h]
theorem over_nil (c : Int) (g : α → Option (Int × Int)) : over [] c g = g := by funext s; simp [over]
theorem over_add {l : List α} {c : Int} {g : α → Option (Int × Int)} {x : α} (h : ¬ x ∈ l) : (fun t => if t = x then some (c, (l.length : Int)) else over l c g t) = over (l ++ [x]) c g := by
  funext t
  by_cases e : t = x
  · subst e
    rw [if_pos rfl, over_mem (by simp), plc, idx_end l t h]
  · rw [if_neg e]
    by_cases m : t ∈ l
    · rw [over_mem m, over_mem (List.mem_append_left _ m), plc, plc, idx_app l [x] t m]
    · rw [over_not m, over_not (by simp [m, e])]
end

/-! ### lists by key -/
/-- How many of the first t have key k. -/
def cn (κ : Nat → Int) (k : Nat) : Nat → Nat
  | 0 => 0
  | t + 1 => cn κ k t + if κ t = (k : Int) then 1 else 0
/-- The values of those, in order. -/
def sel (κ val : Nat → Int) (k : Nat) : Nat → List Int
  | 0 => []
  | t + 1 => if κ t = (k : Int) then sel κ val k t ++ [val t] else sel κ val k t

theorem sel_len (κ val : Nat → Int) (k : Nat) : ∀ t, (sel κ val k t).length = cn κ k t
  | 0 => rfl
  | t + 1 => by
    have := sel_len κ val k t
    unfold sel cn
    split <;> simp [this]
theorem cn_mono (κ : Nat → Int) (k : Nat) {i j : Nat} (h : i ≤ j) : cn κ k i ≤ cn κ k j := by
  induction j with
  | zero => obtain rfl : i = 0 := by omega
            exact Nat.le_refl _
  | succ j ih =>
    by_cases e : i = j + 1
    · subst e; exact Nat.le_refl _
    · exact Nat.le_trans (ih (by omega)) (Nat.le_add_right _ _)
theorem cn_hit {κ : Nat → Int} {k t : Nat} (h : κ t = (k : Int)) : cn κ k (t + 1) = cn κ k t + 1 := by simp [cn, h]
theorem cn_miss {κ : Nat → Int} {k t : Nat} (h : ¬ κ t = (k : Int)) : cn κ k (t + 1) = cn κ k t := by simp [cn, h]
theorem sel_hit {κ val : Nat → Int} {k t : Nat} (h : κ t = (k : Int)) : sel κ val k (t + 1) = sel κ val k t ++ [val t] := by simp [sel, h]
theorem sel_miss {κ val : Nat → Int} {k t : Nat} (h : ¬ κ t = (k : Int)) : sel κ val k (t + 1) = sel κ val k t := by simp [sel, h]

/-- Sums up to and with i. -/
def sumTo (cf : Nat → Nat) : Nat → Nat
  | 0 => cf 0
  | i + 1 => sumTo cf i + cf (i + 1)
theorem sumTo_mono (cf : Nat → Nat) : ∀ d i, sumTo cf i ≤ sumTo cf (i + d)
  | 0, _ => Nat.le_refl _
  | d + 1, i => Nat.le_trans (sumTo_mono cf d i) (Nat.le_add_right _ _)
theorem sumTo_le (cf : Nat → Nat) {i j : Nat} (h : i ≤ j) : sumTo cf i ≤ sumTo cf j := by
  have := sumTo_mono cf (j - i) i; rwa [show i + (j - i) = j by omega] at this

/-- The counts, one place on. -/
def cfT (κ : Nat → Int) (t : Nat) : Nat → Nat
  | 0 => 0
  | k + 1 => cn κ k t

theorem sum_one (cf cg : Nat → Nat) (m : Nat) (h : ∀ i, cg i = cf i + if i = m then 1 else 0) : ∀ q, sumTo cg q = sumTo cf q + if m ≤ q then 1 else 0
  | 0 => by
    show cg 0 = cf 0 + _
    rw [h 0]
    by_cases e : m = 0
    · subst e; simp
    · rw [if_neg (fun h => e h.symm), if_neg (by omega)]
  | q + 1 => by
    show sumTo cg q + cg (q + 1) = sumTo cf q + cf (q + 1) + _
    rw [sum_one cf cg m h q, h (q + 1)]
    by_cases e : m ≤ q
    · rw [if_pos e, if_neg (show ¬ q + 1 = m by omega), if_pos (by omega)]; omega
    · rw [if_neg e]
      by_cases e2 : q + 1 = m
      · rw [if_pos e2, if_pos (by omega)]; omega
      · rw [if_neg e2, if_neg (by omega)]; omega

theorem sum_same (cf cg : Nat → Nat) (h : ∀ i, cg i = cf i) : ∀ q, sumTo cg q = sumTo cf q
  | 0 => h 0
  | q + 1 => by show sumTo cg q + cg (q + 1) = sumTo cf q + cf (q + 1); rw [sum_same cf cg h q, h]

theorem sum_cfT (κ : Nat → Int) (q : Nat) : ∀ t, sumTo (cfT κ t) q ≤ t
  | 0 => by
    have : ∀ q, sumTo (cfT κ 0) q = 0 := fun q => by
      induction q with
      | zero => rfl
      | succ q ih => show sumTo (cfT κ 0) q + cn κ q 0 = 0; rw [ih]; rfl
    rw [this]; exact Nat.le_refl _
  | t + 1 => by
    have ih := sum_cfT κ q t
    by_cases hk : ∃ m : Nat, κ t = (m : Int)
    · obtain ⟨m, hm⟩ := hk
      have := sum_one (cfT κ t) (cfT κ (t + 1)) (m + 1) (fun i => by
        cases i with
        | zero => simp [cfT]
        | succ i =>
          show cn κ i (t + 1) = cn κ i t + _
          by_cases e : i = m
          · subst e; rw [cn_hit hm]; simp
          · rw [cn_miss (fun h => e (by rw [hm] at h; omega))]; simp [e]) q
      rw [this]
      split <;> omega
    · rw [sum_same (cfT κ t) (cfT κ (t + 1)) (fun i => by
        cases i with
        | zero => rfl
        | succ i => exact cn_miss (fun h => hk ⟨i, h⟩)) q]
      omega

/-- The place of the next one of key k lies in her own stretch. -/
theorem place_lt {κ : Nat → Int} {T k t : Nat} (ht : t < T) (h : κ t = (k : Int)) : sumTo (cfT κ T) k + cn κ k t < sumTo (cfT κ T) (k + 1) := by
  have h1 := cn_mono κ k (show t + 1 ≤ T by omega)
  rw [cn_hit h] at h1
  show _ < sumTo (cfT κ T) k + cn κ k T
  omega

/-- Another key's stretch is apart. -/
theorem place_apart {κ : Nat → Int} {T : Nat} {k k' r r' : Nat} (hne : k ≠ k') (hr : r < cn κ k T) (hr' : r' < cn κ k' T) : sumTo (cfT κ T) k + r ≠ sumTo (cfT κ T) k' + r' := by
  rcases Nat.lt_or_ge k k' with h | h
  · have := sumTo_le (cfT κ T) (show k + 1 ≤ k' by omega)
    have e : sumTo (cfT κ T) (k + 1) = sumTo (cfT κ T) k + cn κ k T := rfl
    omega
  · have := sumTo_le (cfT κ T) (show k' + 1 ≤ k by omega)
    have e : sumTo (cfT κ T) (k' + 1) = sumTo (cfT κ T) k' + cn κ k' T := rfl
    omega

/-- Some items row holds, for each key, the first of her values in place. -/
def Filled {β : Type} (em : Int → β) (κ val : Nat → Int) (T q t : Nat) (x : Nat → β) : Prop := ∀ k, k < q → ∀ r, r < cn κ k t → x (sumTo (cfT κ T) k + r) = em ((sel κ val k t).getD r 0)

theorem Filled.none {β : Type} {em : Int → β} {κ val : Nat → Int} {T q : Nat} {x : Nat → β} : Filled em κ val T q 0 x := fun k _ r hr => by simp [cn] at hr

theorem Filled.skip {β : Type} {em : Int → β} {κ val : Nat → Int} {T q t : Nat} {x : Nat → β} (h : Filled em κ val T q t x) (hk : ∀ k, k < q → κ t ≠ (k : Int)) : Filled em κ val T q (t + 1) x := fun k hq r hr => by
  rw [cn_miss (hk k hq)] at hr
  rw [sel_miss (hk k hq)]
  exact h k hq r hr

theorem Filled.put {β : Type} {em : Int → β} {κ val : Nat → Int} {T q t k : Nat} {x x' : Nat → β} (h : Filled em κ val T q t x) (hk : κ t = (k : Int)) (ht : t < T) (hx : ∀ i, x' i = if i = sumTo (cfT κ T) k + cn κ k t then em (val t) else x i) : Filled em κ val T q (t + 1) x' := fun k' hq' r hr => by
  rw [hx]
  by_cases e : k' = k
  · subst e
    rw [cn_hit hk] at hr
    rw [sel_hit hk]
    by_cases e2 : r = cn κ k' t
    · subst e2
      rw [if_pos rfl, ← sel_len κ val]
      simp [List.getD]
    · rw [if_neg (by omega), h k' hq' r (by omega)]
      have hl : r < (sel κ val k' t).length := by rw [sel_len]; omega
      simp [List.getD, List.getElem?_append_left hl]
  · have hm : ¬ κ t = (k' : Int) := fun h => e (by rw [hk] at h; omega)
    rw [cn_miss hm] at hr
    rw [sel_miss hm]
    have h1 := cn_mono κ k' (show t ≤ T by omega)
    have h2 := cn_mono κ k (show t + 1 ≤ T by omega)
    rw [cn_hit hk] at h2
    rw [if_neg (place_apart e (by omega) (by omega)), h k' hq' r hr]
end Go.Proofs.Qxb6600184a
