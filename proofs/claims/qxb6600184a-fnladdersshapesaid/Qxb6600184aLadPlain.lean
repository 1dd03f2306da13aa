/-
  THE PLAIN MATHEMATICS OF THE LADDERS: no Go in sight.
  A graph: sites 0 .. m-1, site s holding the places a s .. a (s+1) - 1; M p: the one at place p is a member; J p: when it joined.
-/
namespace Go.Proofs.Qxb6600184a.Lad

structure Gr where
  a : Nat → Nat
  m : Nat
  M : Nat → Bool
  J : Nat → Int

/-- p is the first place of some site (or the end). -/
def isSt (g : Gr) (p : Nat) : Bool := (List.range (g.m + 1)).any (fun s => g.a s == p)
/-- The first place of p's site. -/
def st (g : Gr) : Nat → Nat
  | 0 => 0
  | p + 1 => if isSt g (p + 1) then p + 1 else st g p
/-- The last member's place from b on and before p. -/
def lm (g : Gr) (b : Nat) : Nat → Option Nat
  | 0 => none
  | p + 1 => if p < b then none else if g.M p then some p else lm g b p
/-- Is p a head, its site beginning at b? -/
def hdA (g : Gr) (b p : Nat) : Bool := g.M p && (match lm g b p with | none => true | some q => g.J p != g.J q)
def hd (g : Gr) (p : Nat) : Bool := hdA g (st g p) p
/-- The heads before p. -/
def cnt (g : Gr) : Nat → Nat
  | 0 => 0
  | p + 1 => cnt g p + (if hd g p then 1 else 0)
/-- The hub up to p. -/
def want (g : Gr) (p : Nat) : Int := if cnt g (st g p) < cnt g (p + 1) then (cnt g (p + 1) : Int) - 1 else -1
/-- The rungs of the places before p. -/
def rg (g : Gr) : Nat → List Int
  | 0 => []
  | p + 1 => if hd g p && decide (cnt g (st g p) < cnt g p) then rg g p ++ [(cnt g p : Int)] else rg g p

structure Ok (g : Gr) : Prop where
  zero : g.a 0 = 0
  mono : ∀ s, s < g.m → g.a s ≤ g.a (s + 1)

theorem Ok.le {g : Gr} (h : Ok g) : ∀ t s, s + t ≤ g.m → g.a s ≤ g.a (s + t)
  | 0, s, _ => Nat.le_refl _
  | t + 1, s, hs => Nat.le_trans (Ok.le h t s (by omega)) (h.mono (s + t) (by omega))
theorem Ok.le' {g : Gr} (h : Ok g) {s t : Nat} (hst : s ≤ t) (ht : t ≤ g.m) : g.a s ≤ g.a t := by
  have := h.le (t - s) s (by omega); rwa [show s + (t - s) = t by omega] at this

theorem st_at {g : Gr} {s : Nat} (hs : s ≤ g.m) : st g (g.a s) = g.a s := by
  match e : g.a s with
  | 0 => rfl
  | p + 1 =>
    have : isSt g (p + 1) = true := by
      unfold isSt; rw [List.any_eq_true]; exact ⟨s, List.mem_range.2 (by omega), by simp [e]⟩
    simp [st, this]

theorem st_in {g : Gr} (h : Ok g) {s : Nat} (hs : s < g.m) : ∀ d, g.a s + d < g.a (s + 1) → st g (g.a s + d) = g.a s
  | 0, _ => st_at (by omega)
  | d + 1, hd => by
    have ih := st_in h hs d (by omega)
    have hn : isSt g (g.a s + d + 1) = false := by
      unfold isSt; rw [List.any_eq_false]; intro t ht
      have ht' := List.mem_range.1 ht
      simp only [beq_iff_eq]
      intro e
      by_cases hts : t ≤ s
      · have := h.le' hts (by omega); omega
      · have := h.le' (show s + 1 ≤ t by omega) (by omega); omega
    show st g (g.a s + d + 1) = _
    simp [st, hn, ih]

theorem st_site {g : Gr} (h : Ok g) {s p : Nat} (hs : s < g.m) (h1 : g.a s ≤ p) (h2 : p < g.a (s + 1)) : st g p = g.a s := by
  have := st_in h hs (p - g.a s) (by omega)
  rwa [show g.a s + (p - g.a s) = p by omega] at this

theorem cnt_mono (g : Gr) : ∀ d p, cnt g p ≤ cnt g (p + d)
  | 0, _ => Nat.le_refl _
  | d + 1, p => Nat.le_trans (cnt_mono g d p) (Nat.le_add_right _ _)
theorem cnt_le {g : Gr} {p q : Nat} (h : p ≤ q) : cnt g p ≤ cnt g q := by
  have := cnt_mono g (q - p) p; rwa [show p + (q - p) = q by omega] at this
theorem cnt_le_self (g : Gr) : ∀ p, cnt g p ≤ p
  | 0 => Nat.le_refl _
  | p + 1 => by have := cnt_le_self g p; show cnt g p + _ ≤ _; split <;> omega
theorem cnt_succ (g : Gr) (p : Nat) : cnt g (p + 1) = cnt g p + (if hd g p then 1 else 0) := rfl

theorem lm_start (g : Gr) (b : Nat) : lm g b b = none := by
  cases b with
  | zero => rfl
  | succ p => simp [lm]
theorem lm_succ (g : Gr) {b p : Nat} (h : b ≤ p) : lm g b (p + 1) = if g.M p then some p else lm g b p := by
  have : ¬ p < b := by omega
  simp [lm, this]

theorem hd_site {g : Gr} (h : Ok g) {s p : Nat} (hs : s < g.m) (h1 : g.a s ≤ p) (h2 : p < g.a (s + 1)) : hd g p = hdA g (g.a s) p := by
  unfold hd; rw [st_site h hs h1 h2]

/-- Within a site: a head has come iff a member has come. -/
theorem seen_iff {g : Gr} (h : Ok g) {s : Nat} (hs : s < g.m) : ∀ d, g.a s + d ≤ g.a (s + 1) → (cnt g (g.a s) < cnt g (g.a s + d) ↔ (lm g (g.a s) (g.a s + d)).isSome = true)
  | 0, _ => by simp [lm_start]
  | d + 1, hd' => by
    have ih := seen_iff h hs d (by omega)
    have hmono := cnt_mono g d (g.a s)
    have e1 : cnt g (g.a s + (d + 1)) = cnt g (g.a s + d) + (if hd g (g.a s + d) then 1 else 0) := rfl
    have e2 : lm g (g.a s) (g.a s + (d + 1)) = if g.M (g.a s + d) then some (g.a s + d) else lm g (g.a s) (g.a s + d) := lm_succ g (Nat.le_add_right _ _)
    have e3 := hd_site h hs (p := g.a s + d) (by omega) (by omega)
    rw [e1, e2, e3]
    unfold hdA
    cases hM : g.M (g.a s + d)
    · simpa using ih
    · simp only [Bool.true_and, if_true, Option.isSome_some, iff_true]
      cases hl : lm g (g.a s) (g.a s + d) with
      | none => simp; omega
      | some q =>
        have : cnt g (g.a s) < cnt g (g.a s + d) := ih.2 (by simp [hl])
        omega

/-- THE STATE OF THE SCAN at place p of the site that begins at b: the top hub, and the time at which the last member joined. -/
def topAt (g : Gr) (b p : Nat) : Int := if cnt g b < cnt g p then (cnt g p : Int) - 1 else -1
def tjOk (g : Gr) (b p : Nat) (tj : Int) : Prop := ∀ q, lm g b p = some q → tj = g.J q

theorem topAt_start (g : Gr) (b : Nat) : topAt g b b = -1 := by simp [topAt]
theorem tj_start (g : Gr) (b : Nat) (tj : Int) : tjOk g b b tj := by intro q hq; rw [lm_start] at hq; cases hq

theorem want_top {g : Gr} (h : Ok g) {s p : Nat} (hs : s < g.m) (h1 : g.a s ≤ p) (h2 : p < g.a (s + 1)) : want g p = topAt g (g.a s) (p + 1) := by
  unfold want topAt; rw [st_site h hs h1 h2]

theorem seen {g : Gr} (h : Ok g) {s p : Nat} (hs : s < g.m) (h1 : g.a s ≤ p) (h2 : p ≤ g.a (s + 1)) : cnt g (g.a s) < cnt g p ↔ (lm g (g.a s) p).isSome = true := by
  have := seen_iff h hs (p - g.a s) (by omega)
  rwa [show g.a s + (p - g.a s) = p by omega] at this

/-- The code's own test is 'hd'. -/
theorem test_hd {g : Gr} (h : Ok g) {s p : Nat} (hs : s < g.m) (h1 : g.a s ≤ p) (h2 : p < g.a (s + 1)) {tj : Int} (htj : tjOk g (g.a s) p tj) :
    hd g p = (g.M p && (decide (topAt g (g.a s) p < 0) || g.J p != tj)) := by
  rw [hd_site h hs h1 h2]
  unfold hdA
  have hsn := seen h hs h1 (by omega : p ≤ g.a (s + 1))
  cases hM : g.M p
  · simp
  · simp only [Bool.true_and]
    cases hl : lm g (g.a s) p with
    | none =>
      have : ¬ cnt g (g.a s) < cnt g p := fun hc => by have := hsn.1 hc; simp [hl] at this
      simp [topAt, this]
    | some q =>
      have hc : cnt g (g.a s) < cnt g p := hsn.2 (by simp [hl])
      have : ¬ topAt g (g.a s) p < 0 := by unfold topAt; rw [if_pos hc]; omega
      rw [htj q hl]
      simp [this]

theorem top_nonneg {g : Gr} (b p : Nat) : (0 ≤ topAt g b p) ↔ cnt g b < cnt g p := by
  unfold topAt; split <;> omega
theorem top_bound (g : Gr) (b p : Nat) : -1 ≤ topAt g b p ∧ topAt g b p < cnt g p + 1 := by
  unfold topAt; split <;> omega

/-- A head: what the round leaves. -/
theorem step_head {g : Gr} (h : Ok g) {s p : Nat} (hs : s < g.m) (h1 : g.a s ≤ p) (h2 : p < g.a (s + 1)) (hh : hd g p = true) :
    cnt g (p + 1) = cnt g p + 1 ∧ topAt g (g.a s) (p + 1) = cnt g p ∧ tjOk g (g.a s) (p + 1) (g.J p) := by
  have e : cnt g (p + 1) = cnt g p + 1 := by rw [cnt_succ, hh]; rfl
  have hle := cnt_le (g := g) h1
  refine ⟨e, ?_, ?_⟩
  · unfold topAt; rw [e, if_pos (by omega)]; omega
  · intro q hq
    rw [lm_succ g h1] at hq
    have hM : g.M p = true := by rw [hd_site h hs h1 h2] at hh; unfold hdA at hh; exact (Bool.and_eq_true_iff.1 hh).1
    rw [hM, if_pos rfl] at hq
    cases hq; rfl

/-- No head: what the round leaves. -/
theorem step_not {g : Gr} (h : Ok g) {s p : Nat} (hs : s < g.m) (h1 : g.a s ≤ p) (h2 : p < g.a (s + 1)) (hh : hd g p = false) {tj : Int} (htj : tjOk g (g.a s) p tj) :
    cnt g (p + 1) = cnt g p ∧ topAt g (g.a s) (p + 1) = topAt g (g.a s) p ∧ tjOk g (g.a s) (p + 1) tj := by
  have e : cnt g (p + 1) = cnt g p := by rw [cnt_succ, hh]; rfl
  refine ⟨e, by unfold topAt; rw [e], ?_⟩
  intro q hq
  rw [lm_succ g h1] at hq
  rw [hd_site h hs h1 h2] at hh
  unfold hdA at hh
  cases hM : g.M p
  · rw [hM] at hq; exact htj q (by simpa using hq)
  · rw [hM] at hq hh
    simp at hq
    subst hq
    cases hl : lm g (g.a s) p with
    | none => rw [hl] at hh; simp at hh
    | some q' =>
      rw [hl] at hh
      simp at hh
      rw [htj q' hl, hh]

theorem rg_rung {g : Gr} (h : Ok g) {s p : Nat} (hs : s < g.m) (h1 : g.a s ≤ p) (h2 : p < g.a (s + 1)) (hh : hd g p = true) (ht : 0 ≤ topAt g (g.a s) p) : rg g (p + 1) = rg g p ++ [(cnt g p : Int)] := by
  have := (top_nonneg _ _).1 ht
  simp [rg, hh, st_site h hs h1 h2, this]
theorem rg_first {g : Gr} (h : Ok g) {s p : Nat} (hs : s < g.m) (h1 : g.a s ≤ p) (h2 : p < g.a (s + 1)) (ht : topAt g (g.a s) p < 0) : rg g (p + 1) = rg g p := by
  have : ¬ cnt g (g.a s) < cnt g p := fun hc => by have := (top_nonneg _ _).2 hc; omega
  simp [rg, st_site h hs h1 h2, this]
theorem rg_not {g : Gr} {p : Nat} (hh : hd g p = false) : rg g (p + 1) = rg g p := by simp [rg, hh]
theorem rg_length (g : Gr) : ∀ p, (rg g p).length ≤ cnt g p
  | 0 => Nat.le_refl _
  | p + 1 => by
    have ih := rg_length g p
    rw [cnt_succ]
    cases hh : hd g p
    · rw [rg_not hh]; omega
    · simp only [rg, hh, Bool.true_and]
      split
      · simp; omega
      · simp; omega

/-! ### THE FIRST LAW's own facts: heads marked from the site's end -/
theorem lm_mem {g : Gr} {b : Nat} : ∀ {p q : Nat}, lm g b p = some q → b ≤ q ∧ q < p ∧ g.M q = true
  | 0, q, h => by simp [lm] at h
  | p + 1, q, h => by
    by_cases hb : p < b
    · simp [lm, hb] at h
    · rw [lm_succ g (by omega)] at h
      cases hM : g.M p
      · rw [hM] at h
        obtain ⟨h1, h2, h3⟩ := lm_mem (p := p) (q := q) (by simpa using h)
        exact ⟨h1, by omega, h3⟩
      · rw [hM] at h; simp at h; subst h; exact ⟨by omega, by omega, hM⟩

theorem lm_gap {g : Gr} {b : Nat} : ∀ (d p : Nat), b ≤ p → (∀ q, p ≤ q → q < p + d → g.M q = false) → lm g b (p + d) = lm g b p
  | 0, _, _, _ => rfl
  | d + 1, p, hb, h => by
    have e : lm g b (p + d + 1) = _ := lm_succ g (b := b) (p := p + d) (by omega)
    show lm g b (p + d + 1) = _
    rw [e, h (p + d) (by omega) (by omega), if_neg (by simp)]
    exact lm_gap d p hb fun q h1 h2 => h q h1 (by omega)

/-- x is the first member's place from i on, x before e. -/
def Nxt (g : Gr) (i e : Nat) (x : Int) : Prop :=
  (x = -1 ∧ ∀ q, i ≤ q → q < e → g.M q = false) ∨ ∃ y : Nat, x = y ∧ i ≤ y ∧ y < e ∧ g.M y = true ∧ ∀ q, i ≤ q → q < y → g.M q = false

theorem nxt_start (g : Gr) (e : Nat) : Nxt g e e (-1) := Or.inl ⟨rfl, fun q h1 h2 => by omega⟩
theorem nxt_mem {g : Gr} {i e : Nat} (h : i < e) (hM : g.M i = true) : Nxt g i e i := Or.inr ⟨i, rfl, Nat.le_refl _, h, hM, fun q h1 h2 => by omega⟩
theorem nxt_not {g : Gr} {i e : Nat} {x : Int} (hM : g.M i = false) (h : Nxt g (i + 1) e x) : Nxt g i e x := by
  rcases h with ⟨rfl, h⟩ | ⟨y, rfl, h1, h2, h3, h4⟩
  · refine Or.inl ⟨rfl, fun q a b => ?_⟩
    by_cases e : q = i
    · subst e; exact hM
    · exact h q (by omega) b
  · refine Or.inr ⟨y, rfl, by omega, h2, h3, fun q a b => ?_⟩
    by_cases e : q = i
    · subst e; exact hM
    · exact h4 q (by omega) b

/-- The head array, places i .. e-1 of the site b .. e-1 gone through, x the first member of them, still to be settled. -/
def hrow (g : Gr) (b i e : Nat) (x : Int) (q : Nat) : Bool := if q < b then hd g q else if i ≤ q ∧ q < e ∧ (q : Int) ≠ x then hd g q else false
/-- .. the sites before b gone through. -/
def hout (g : Gr) (b q : Nat) : Bool := if q < b then hd g q else false

theorem hrow_start (g : Gr) (b e : Nat) (x : Int) (q : Nat) : hrow g b e e x q = hout g b q := by
  unfold hrow hout
  split
  · rfl
  · rw [if_neg (by omega)]

/-- A member: the one behind it is settled. -/
theorem hrow_mem {g : Gr} (h : Ok g) {s : Nat} (hs : s < g.m) {i y : Nat} (h1 : g.a s ≤ i) (hM : g.M i = true) (hx : Nxt g (i + 1) (g.a (s + 1)) (y : Int)) (q : Nat) :
    (if q = y then (g.J y != g.J i) else hrow g (g.a s) (i + 1) (g.a (s + 1)) y q) = hrow g (g.a s) i (g.a (s + 1)) i q := by
  rcases hx with ⟨e, _⟩ | ⟨z, e, h3, h4, h5, h6⟩
  · omega
  have : y = z := by omega
  subst this
  by_cases e : q = y
  · subst e
    have hl : lm g (g.a s) q = some i := by
      have := lm_gap (g := g) (b := g.a s) (q - (i + 1)) (i + 1) (by omega) (fun r a b => h6 r a (by omega))
      rw [show i + 1 + (q - (i + 1)) = q by omega] at this
      rw [this, lm_succ g h1, hM, if_pos rfl]
    unfold hrow
    rw [if_pos rfl, if_neg (by omega), if_pos (by omega), hd_site h hs (by omega) h4]
    unfold hdA
    rw [hl, h5]; simp
  · rw [if_neg e]
    unfold hrow
    by_cases hb : q < g.a s
    · rw [if_pos hb, if_pos hb]
    · rw [if_neg hb, if_neg hb]
      by_cases hq : i + 1 ≤ q ∧ q < g.a (s + 1)
      · rw [if_pos (by omega), if_pos (by omega)]
      · rw [if_neg (by omega), if_neg (by omega)]

/-- A member, none behind it. -/
theorem hrow_first {g : Gr} {s : Nat} {i : Nat} (q : Nat) :
    hrow g (g.a s) (i + 1) (g.a (s + 1)) (-1) q = hrow g (g.a s) i (g.a (s + 1)) i q := by
  unfold hrow
  by_cases hb : q < g.a s
  · rw [if_pos hb, if_pos hb]
  · rw [if_neg hb, if_neg hb]
    by_cases hq : i + 1 ≤ q ∧ q < g.a (s + 1)
    · rw [if_pos (by omega), if_pos (by omega)]
    · rw [if_neg (by omega), if_neg (by omega)]

theorem hd_not {g : Gr} {q : Nat} (hM : g.M q = false) : hd g q = false := by unfold hd hdA; rw [hM]; rfl

/-- No member: nothing turns. -/
theorem hrow_not {g : Gr} {b e i : Nat} {x : Int} (hM : g.M i = false) (q : Nat) : hrow g b (i + 1) e x q = hrow g b i e x q := by
  unfold hrow
  by_cases hb : q < b
  · rw [if_pos hb, if_pos hb]
  · rw [if_neg hb, if_neg hb]
    by_cases hq : q = i
    · subst hq
      rw [if_neg (by omega), hd_not hM]; simp
    · by_cases h1 : i + 1 ≤ q ∧ q < e ∧ (q : Int) ≠ x
      · rw [if_pos h1, if_pos (by omega)]
      · rw [if_neg h1, if_neg (by omega)]

/-- The site is through: its first member is a head. -/
theorem hrow_end {g : Gr} (h : Ok g) {s : Nat} (hs : s < g.m) {y : Nat} (hx : Nxt g (g.a s) (g.a (s + 1)) (y : Int)) (q : Nat) :
    (if q = y then true else hrow g (g.a s) (g.a s) (g.a (s + 1)) y q) = hout g (g.a (s + 1)) q := by
  rcases hx with ⟨e, _⟩ | ⟨z, e, h3, h4, h5, h6⟩
  · omega
  have : y = z := by omega
  subst this
  have hm := h.mono s hs
  by_cases e : q = y
  · subst e
    have hl : lm g (g.a s) q = none := by
      have := lm_gap (g := g) (b := g.a s) (q - g.a s) (g.a s) (by omega) (fun r a b => h6 r a (by omega))
      rw [show g.a s + (q - g.a s) = q by omega] at this
      rw [this, lm_start]
    unfold hout
    rw [if_pos rfl, if_pos h4, hd_site h hs h3 h4]
    unfold hdA
    rw [hl, h5]; rfl
  · rw [if_neg e]
    unfold hrow hout
    by_cases hb : q < g.a s
    · rw [if_pos hb, if_pos (by omega)]
    · rw [if_neg hb]
      by_cases hq : q < g.a (s + 1)
      · rw [if_pos (by omega), if_pos hq]
      · rw [if_neg (by omega), if_neg hq]
theorem hrow_end_none {g : Gr} (h : Ok g) {s : Nat} (hs : s < g.m) (q : Nat) :
    hrow g (g.a s) (g.a s) (g.a (s + 1)) (-1) q = hout g (g.a (s + 1)) q := by
  have hm := h.mono s hs
  unfold hrow hout
  by_cases hb : q < g.a s
  · rw [if_pos hb, if_pos (by omega)]
  · rw [if_neg hb]
    by_cases hq : q < g.a (s + 1)
    · rw [if_pos (by omega), if_pos hq]
    · rw [if_neg (by omega), if_neg hq]

/-- The rungs are a prefix of the rungs. -/
theorem rg_prefix (g : Gr) : ∀ d p, ∃ l, rg g (p + d) = rg g p ++ l
  | 0, p => ⟨[], by simp⟩
  | d + 1, p => by
    obtain ⟨l, hl⟩ := rg_prefix g d p
    show ∃ l, rg g (p + d + 1) = _
    by_cases hc : (hd g (p + d) && decide (cnt g (st g (p + d)) < cnt g (p + d))) = true
    · exact ⟨l ++ [(cnt g (p + d) : Int)], by simp only [rg]; rw [if_pos hc, hl, List.append_assoc]⟩
    · exact ⟨l, by simp only [rg]; rw [if_neg hc, hl]⟩
/-- At a rung: the whole list's next entry. -/
theorem rg_at {g : Gr} (h : Ok g) {s p n : Nat} (hs : s < g.m) (h1 : g.a s ≤ p) (h2 : p < g.a (s + 1)) (hn : p < n) (hh : hd g p = true) (ht : cnt g (g.a s) < cnt g p) :
    (rg g p).length < (rg g n).length ∧ (rg g n).getD (rg g p).length 0 = cnt g p ∧ (rg g (p + 1)).length = (rg g p).length + 1 := by
  have e := rg_rung h hs h1 h2 hh ((top_nonneg _ _).2 ht)
  obtain ⟨l, hl⟩ := rg_prefix g (n - (p + 1)) (p + 1)
  rw [show p + 1 + (n - (p + 1)) = n by omega] at hl
  rw [hl, e]
  refine ⟨by simp, by simp, by simp⟩

/-! ### THE SECOND LAW's own facts -/
/-- Members before p. -/
def mp (g : Gr) : Nat → Nat
  | 0 => 0
  | p + 1 => mp g p + (if g.M p then 1 else 0)
theorem mp_le (g : Gr) : ∀ p, mp g p ≤ p
  | 0 => Nat.le_refl _
  | p + 1 => by have := mp_le g p; show mp g p + _ ≤ _; split <;> omega
theorem cnt_le_mp (g : Gr) : ∀ p, cnt g p ≤ mp g p
  | 0 => Nat.le_refl _
  | p + 1 => by
    have ih := cnt_le_mp g p
    show cnt g p + _ ≤ mp g p + _
    cases hM : g.M p
    · rw [hd_not hM]; simpa using ih
    · cases hd g p <;> simp <;> omega
/-- Heads that are no rungs. -/
def fs (g : Gr) (p : Nat) : Nat := cnt g p - (rg g p).length
theorem fs_le (g : Gr) (p : Nat) : fs g p ≤ p := by have := cnt_le_self g p; unfold fs; omega
theorem fs_first {g : Gr} (h : Ok g) {s p : Nat} (hs : s < g.m) (h1 : g.a s ≤ p) (h2 : p < g.a (s + 1)) (hM : g.M p = true) (hc : ¬ cnt g (g.a s) < cnt g p) : fs g (p + 1) = fs g p + 1 ∧ hd g p = true := by
  have hl : lm g (g.a s) p = none := by
    cases hl : lm g (g.a s) p with
    | none => rfl
    | some q => exact absurd ((seen h hs h1 (by omega)).2 (by simp [hl])) hc
  have hh : hd g p = true := by rw [hd_site h hs h1 h2]; unfold hdA; rw [hl, hM]; rfl
  have hr := rg_first h hs h1 h2 (by have := top_nonneg (g := g) (g.a s) p; omega)
  have hlen := rg_length g p
  refine ⟨?_, hh⟩
  unfold fs; rw [hr, cnt_succ, hh]; simp; omega
theorem fs_later {g : Gr} (h : Ok g) {s p : Nat} (hs : s < g.m) (h1 : g.a s ≤ p) (h2 : p < g.a (s + 1)) (hc : cnt g (g.a s) < cnt g p) : fs g (p + 1) = fs g p := by
  have hlen := rg_length g p
  cases hh : hd g p
  · unfold fs; rw [rg_not hh, cnt_succ, hh]; simp
  · have e := rg_rung h hs h1 h2 hh ((top_nonneg _ _).2 hc)
    unfold fs; rw [e, cnt_succ, hh]; simp
theorem fs_not {g : Gr} {p : Nat} (hM : g.M p = false) : fs g (p + 1) = fs g p := by
  have hh := hd_not hM
  unfold fs; rw [rg_not hh, cnt_succ, hh]; simp
theorem cnt_not {g : Gr} {p : Nat} (hM : g.M p = false) : cnt g (p + 1) = cnt g p := by rw [cnt_succ, hd_not hM]; rfl
theorem seen_mem {g : Gr} (h : Ok g) {s p : Nat} (hs : s < g.m) (h1 : g.a s ≤ p) (h2 : p < g.a (s + 1)) (hM : g.M p = true) : cnt g (g.a s) < cnt g (p + 1) :=
  (seen h hs (by omega) (by omega)).2 (by rw [lm_succ g h1, hM]; rfl)
theorem top_mono {g : Gr} (b p : Nat) (_h : b ≤ p) : topAt g b p ≤ topAt g b (p + 1) := by
  have := cnt_le (g := g) (show p ≤ p + 1 by omega)
  unfold topAt; split <;> split <;> omega
theorem rg_mem {g : Gr} : ∀ {p : Nat} {x : Int}, x ∈ rg g p → 1 ≤ x ∧ x < cnt g p
  | 0, x, h => by simp [rg] at h
  | p + 1, x, h => by
    by_cases hc : (hd g p && decide (cnt g (st g p) < cnt g p)) = true
    · simp only [rg] at h
      rw [if_pos hc] at h
      obtain ⟨hh, ht⟩ := Bool.and_eq_true_iff.1 hc
      have ht := of_decide_eq_true ht
      rw [cnt_succ, hh]
      rcases List.mem_append.1 h with h | h
      · have := rg_mem h; simp; omega
      · simp at h; subst h; simp; omega
    · simp only [rg] at h
      rw [if_neg hc] at h
      have := rg_mem h
      have := cnt_le (g := g) (show p ≤ p + 1 by omega)
      omega
theorem rg_asc (g : Gr) : ∀ p, (rg g p).Pairwise (· < ·)
  | 0 => List.Pairwise.nil
  | p + 1 => by
    have ih := rg_asc g p
    simp only [rg]
    split
    · rw [List.pairwise_append]
      refine ⟨ih, List.pairwise_singleton _ _, fun x hx y hy => ?_⟩
      simp at hy; subst hy
      exact (rg_mem hx).2
    · exact ih
theorem rg_getD (g : Gr) (n i : Nat) (h : i < (rg g n).length) : 1 ≤ (rg g n).getD i 0 ∧ (rg g n).getD i 0 < cnt g n := by
  have e : (rg g n).getD i 0 = (rg g n)[i] := by simp [List.getD, h]
  rw [e]; exact rg_mem (List.getElem_mem h)
theorem rg_lt (g : Gr) (n i : Nat) (h : i + 1 < (rg g n).length) : (rg g n).getD i 0 < (rg g n).getD (i + 1) 0 := by
  have e1 : (rg g n).getD i 0 = (rg g n)[i] := by simp [List.getD, show i < (rg g n).length by omega]
  have e2 : (rg g n).getD (i + 1) 0 = (rg g n)[i + 1] := by simp [List.getD, h]
  rw [e1, e2]
  exact List.pairwise_iff_getElem.1 (rg_asc g n) i (i + 1) (by omega) h (by omega)
end Go.Proofs.Qxb6600184a.Lad
