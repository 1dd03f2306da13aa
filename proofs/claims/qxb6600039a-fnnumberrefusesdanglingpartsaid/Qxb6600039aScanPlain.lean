/-
  THE PLAIN MATHEMATICS of reading a JSON string: no Go in sight. d: the bytes by index; n: how many there are.
-/
namespace Go.Proofs.Qxb6600039a.Sc

def hexB (c : Int) : Bool := (decide (48 ≤ c) && decide (c ≤ 57)) || (decide (97 ≤ c) && decide (c ≤ 102)) || (decide (65 ≤ c) && decide (c ≤ 70))
def escB (c : Int) : Bool := c == 34 || c == 92 || c == 47 || c == 98 || c == 102 || c == 110 || c == 114 || c == 116
def hex4 (d : Nat → Int) (i : Nat) : Bool := hexB (d i) && hexB (d (i + 1)) && hexB (d (i + 2)) && hexB (d (i + 3))

/-- One step from i (i < n, no closing quote at i): where the next one begins, and whether it was an escape. -/
def stp (d : Nat → Int) (n i : Nat) : Option (Nat × Bool) :=
  if d i < 32 then none
  else if d i = 92 then
    if n ≤ i + 1 then none
    else if escB (d (i + 1)) then some (i + 2, true)
    else if d (i + 1) = 117 then (if n ≤ i + 5 then none else if hex4 d (i + 2) then some (i + 6, true) else none)
    else none
  else some (i + 1, false)

def scan (d : Nat → Int) (n : Nat) : Nat → Nat → Bool → Option (Nat × Bool)
  | 0, _, _ => none
  | f + 1, i, p => if n ≤ i then none else if d i = 34 then some (i, p) else
    match stp d n i with
    | none => none
    | some (j, e) => scan d n f j (if e then false else p)

theorem stp_lt {d : Nat → Int} {n i j : Nat} {e : Bool} (h : stp d n i = some (j, e)) (hi : i < n) : i < j ∧ j ≤ n := by
  unfold stp at h
  split at h
  · cases h
  · split at h
    · split at h
      · cases h
      · split at h
        · cases h; omega
        · split at h
          · split at h
            · cases h
            · split at h
              · cases h; omega
              · cases h
          · cases h
    · cases h; omega

theorem scan_fuel {d : Nat → Int} {n : Nat} : ∀ (f f' i : Nat) (p : Bool), n - i < f → n - i < f' → scan d n f i p = scan d n f' i p
  | 0, _, _, _, h, _ => by omega
  | _ + 1, 0, _, _, _, h => by omega
  | f + 1, f' + 1, i, p, h, h' => by
    unfold scan
    by_cases hn : n ≤ i
    · rw [if_pos hn, if_pos hn]
    · rw [if_neg hn, if_neg hn]
      by_cases hq : d i = 34
      · rw [if_pos hq, if_pos hq]
      · rw [if_neg hq, if_neg hq]
        cases hs : stp d n i with
        | none => rfl
        | some x =>
          obtain ⟨j, e⟩ := x
          have := stp_lt hs (by omega)
          exact scan_fuel f f' j _ (by omega) (by omega)

/-- With fuel that suffices. -/
def sc (d : Nat → Int) (n i : Nat) (p : Bool) : Option (Nat × Bool) := scan d n (n + 1 - i) i p

theorem sc_end (d : Nat → Int) {n i : Nat} (p : Bool) (h : n ≤ i) : sc d n i p = none := by
  unfold sc
  match e : n + 1 - i with
  | 0 => rfl
  | f + 1 => simp [scan, h]
theorem sc_quote {d : Nat → Int} {n i : Nat} (p : Bool) (h : i < n) (hq : d i = 34) : sc d n i p = some (i, p) := by
  unfold sc
  rw [show n + 1 - i = (n - i) + 1 by omega]
  simp [scan, hq, show ¬ n ≤ i by omega]
theorem sc_none {d : Nat → Int} {n i : Nat} (p : Bool) (h : i < n) (hq : ¬ d i = 34) (hs : stp d n i = none) : sc d n i p = none := by
  unfold sc
  rw [show n + 1 - i = (n - i) + 1 by omega]
  simp [scan, hq, show ¬ n ≤ i by omega, hs]
theorem sc_step {d : Nat → Int} {n i j : Nat} {e : Bool} (p : Bool) (h : i < n) (hq : ¬ d i = 34) (hs : stp d n i = some (j, e)) : sc d n i p = sc d n j (if e then false else p) := by
  have hj := stp_lt hs h
  unfold sc
  rw [show n + 1 - i = (n - i) + 1 by omega]
  have hl : scan d n (n - i + 1) i p = scan d n (n - i) j (if e then false else p) := by rw [scan, if_neg (by omega), if_neg hq, hs]
  rw [hl]
  exact scan_fuel (d := d) (n := n) (n - i) (n + 1 - j) j _ (by omega) (by omega)

/-- Quoted, from the offset a ≤ n. -/
def quo (d : Nat → Int) (n a : Nat) : Option (Nat × Bool) := if a = n then none else if d a = 34 then sc d n (a + 1) true else none

theorem sc_le {d : Nat → Int} {n : Nat} : ∀ (m i : Nat) (p : Bool) (j : Nat) (p' : Bool), n - i ≤ m → sc d n i p = some (j, p') → i ≤ j ∧ j < n ∧ d j = 34
  | m, i, p, j, p', hm, h => by
    by_cases hn : n ≤ i
    · rw [sc_end d p hn] at h; cases h
    · by_cases hq : d i = 34
      · rw [sc_quote p (by omega) hq] at h
        cases h; exact ⟨Nat.le_refl _, by omega, hq⟩
      · cases hs : stp d n i with
        | none => rw [sc_none p (by omega) hq hs] at h; cases h
        | some x =>
          obtain ⟨k, e⟩ := x
          have hk := stp_lt hs (by omega)
          rw [sc_step p (by omega) hq hs] at h
          match m with
          | 0 => omega
          | m + 1 =>
            have := sc_le m k _ j p' (by omega) h
            omega

/-! ### Nothing before the offset matters -/
theorem stp_shift (d : Nat → Int) (n a i : Nat) (ha : a ≤ n) : stp (fun k => d (a + k)) (n - a) i = (stp d n (a + i)).map fun x => (x.1 - a, x.2) := by
  unfold stp
  simp only [show a + (i + 1) = a + i + 1 from by omega]
  by_cases h1 : d (a + i) < 32
  · simp [h1]
  · rw [if_neg h1, if_neg h1]
    by_cases h2 : d (a + i) = 92
    · rw [if_pos h2, if_pos h2]
      by_cases h3 : n - a ≤ i + 1
      · rw [if_pos h3, if_pos (show n ≤ a + i + 1 by omega)]; rfl
      · rw [if_neg h3, if_neg (show ¬ n ≤ a + i + 1 by omega)]
        by_cases h4 : escB (d (a + i + 1)) = true
        · rw [if_pos h4, if_pos h4]; simp; omega
        · rw [if_neg h4, if_neg h4]
          by_cases h5 : d (a + i + 1) = 117
          · rw [if_pos h5, if_pos h5]
            by_cases h6 : n - a ≤ i + 5
            · rw [if_pos h6, if_pos (show n ≤ a + i + 5 by omega)]; rfl
            · rw [if_neg h6, if_neg (show ¬ n ≤ a + i + 5 by omega)]
              have e : hex4 (fun k => d (a + k)) (i + 2) = hex4 d (a + i + 2) := by
                unfold hex4
                simp only [show a + (i + 2) = a + i + 2 by omega, show a + (i + 2 + 1) = a + i + 2 + 1 by omega, show a + (i + 2 + 2) = a + i + 2 + 2 by omega, show a + (i + 2 + 3) = a + i + 2 + 3 by omega]
              rw [e]
              by_cases h7 : hex4 d (a + i + 2) = true
              · rw [if_pos h7, if_pos h7]; simp; omega
              · rw [if_neg h7, if_neg h7]; rfl
          · rw [if_neg h5, if_neg h5]; rfl
    · rw [if_neg h2, if_neg h2]; simp; omega

theorem sc_shift (d : Nat → Int) (n a : Nat) (ha : a ≤ n) : ∀ (m i : Nat) (p : Bool), n - a - i ≤ m → sc (fun k => d (a + k)) (n - a) i p = (sc d n (a + i) p).map fun x => (x.1 - a, x.2)
  | m, i, p, hm => by
    by_cases hn : n - a ≤ i
    · rw [sc_end _ p hn, sc_end _ p (by omega)]; rfl
    · by_cases hq : d (a + i) = 34
      · rw [sc_quote (d := fun k => d (a + k)) p (by omega) hq, sc_quote p (by omega) hq]; simp
      · have hsh := stp_shift d n a i ha
        cases hs : stp d n (a + i) with
        | none =>
          rw [hs] at hsh
          rw [sc_none (d := fun k => d (a + k)) p (by omega) hq hsh, sc_none p (by omega) hq hs]; rfl
        | some x =>
          obtain ⟨k, e⟩ := x
          rw [hs] at hsh
          have hk := stp_lt hs (by omega)
          rw [sc_step (d := fun k => d (a + k)) p (by omega) hq hsh, sc_step p (by omega) hq hs]
          match m with
          | 0 => omega
          | m + 1 =>
            have := sc_shift d n a ha m (k - a) (if e then false else p) (by omega)
            rw [show a + (k - a) = k by omega] at this
            exact this

theorem quo_shift (d : Nat → Int) (n a : Nat) (ha : a ≤ n) : quo (fun k => d (a + k)) (n - a) 0 = (quo d n a).map fun x => (x.1 - a, x.2) := by
  unfold quo
  by_cases h : a = n
  · rw [if_pos h, if_pos (by omega)]; rfl
  · rw [if_neg h, if_neg (by omega)]
    show (if d (a + 0) = 34 then _ else _) = _
    rw [Nat.add_zero]
    by_cases hq : d a = 34
    · rw [if_pos hq, if_pos hq]
      exact sc_shift d n a ha (n - a) 1 true (by omega)
    · rw [if_neg hq, if_neg hq]; rfl

/-! ### Nothing behind the closing quote matters -/
theorem stp_agree {d d' : Nat → Int} {n n' i j : Nat} {e : Bool} (h : stp d n i = some (j, e)) (hd : ∀ k, i ≤ k → k < j → d' k = d k) (hj : j ≤ n') (hi : i < n) : stp d' n' i = some (j, e) := by
  have hlt := stp_lt h hi
  have h0 : d' i = d i := hd i (Nat.le_refl _) hlt.1
  unfold stp at h ⊢
  rw [h0]
  by_cases h1 : d i < 32
  · rw [if_pos h1] at h; cases h
  · rw [if_neg h1] at h ⊢
    by_cases h2 : d i = 92
    · rw [if_pos h2] at h ⊢
      by_cases h3 : n ≤ i + 1
      · rw [if_pos h3] at h; cases h
      · rw [if_neg h3] at h
        have hj2 : i + 2 ≤ j := by
          split at h
          · cases h; omega
          · split at h
            · split at h
              · cases h
              · split at h
                · cases h; omega
                · cases h
            · cases h
        rw [if_neg (by omega), hd (i + 1) (by omega) (by omega)]
        by_cases h4 : escB (d (i + 1)) = true
        · rw [if_pos h4] at h ⊢; exact h
        · rw [if_neg h4] at h ⊢
          by_cases h5 : d (i + 1) = 117
          · rw [if_pos h5] at h ⊢
            by_cases h6 : n ≤ i + 5
            · rw [if_pos h6] at h; cases h
            · rw [if_neg h6] at h
              by_cases h7 : hex4 d (i + 2) = true
              · rw [if_pos h7] at h
                cases h
                have e : hex4 d' (i + 2) = hex4 d (i + 2) := by
                  unfold hex4
                  rw [hd (i + 2) (by omega) (by omega), hd (i + 2 + 1) (by omega) (by omega), hd (i + 2 + 2) (by omega) (by omega), hd (i + 2 + 3) (by omega) (by omega)]
                rw [if_neg (by omega), e, if_pos h7]
              · rw [if_neg h7] at h; cases h
          · rw [if_neg h5] at h; cases h
    · rw [if_neg h2] at h ⊢; exact h

theorem sc_agree {d d' : Nat → Int} {n n' : Nat} : ∀ (m i : Nat) (p : Bool) (j : Nat) (p' : Bool), n - i ≤ m → sc d n i p = some (j, p') → (∀ k, i ≤ k → k ≤ j → d' k = d k) → j < n' → sc d' n' i p = some (j, p')
  | m, i, p, j, p', hm, h, hd, hj => by
    have hle := sc_le m i p j p' hm h
    by_cases hq : d i = 34
    · rw [sc_quote p (by omega) hq] at h
      cases h
      exact sc_quote p hj (by rw [hd i (Nat.le_refl _) (Nat.le_refl _)]; exact hq)
    · cases hs : stp d n i with
      | none => rw [sc_none p (by omega) hq hs] at h; cases h
      | some x =>
        obtain ⟨k, e⟩ := x
        have hk := stp_lt hs (by omega)
        rw [sc_step p (by omega) hq hs] at h
        match m with
        | 0 => omega
        | m + 1 =>
          have hkj := (sc_le m k _ j p' (by omega) h).1
          have hs' := stp_agree (n' := n') hs (fun l h1 h2 => hd l h1 (by omega)) (by omega) (by omega)
          rw [sc_step p (by omega) (by rw [hd i (Nat.le_refl _) (by omega)]; exact hq) hs']
          exact sc_agree m k _ j p' (by omega) h (fun l h1 h2 => hd l (by omega) h2) hj

/-- Every cut inside the span is refused. -/
theorem sc_cut {d : Nat → Int} {n n' : Nat} (hn' : n' ≤ n) : ∀ (m i : Nat) (p : Bool) (j : Nat) (p' : Bool), n - i ≤ m → sc d n i p = some (j, p') → n' ≤ j → sc d n' i p = none
  | m, i, p, j, p', hm, h, hj => by
    have hle := sc_le m i p j p' hm h
    by_cases hi : n' ≤ i
    · exact sc_end d p hi
    · by_cases hq : d i = 34
      · rw [sc_quote p (by omega) hq] at h
        cases h; omega
      · cases hs : stp d n i with
        | none => rw [sc_none p (by omega) hq hs] at h; cases h
        | some x =>
          obtain ⟨k, e⟩ := x
          have hk := stp_lt hs (by omega)
          rw [sc_step p (by omega) hq hs] at h
          cases hs' : stp d n' i with
          | none => exact sc_none p (by omega) hq hs'
          | some y =>
            obtain ⟨k', e'⟩ := y
            have hk' := stp_lt hs' (by omega)
            have := stp_agree (d' := d) (n' := n) hs' (fun l _ _ => rfl) (by omega) (by omega)
            rw [hs] at this
            cases this
            rw [sc_step p (by omega) hq hs']
            match m with
            | 0 => omega
            | m + 1 => exact sc_cut hn' m k _ j p' (by omega) h hj

theorem quo_le {d : Nat → Int} {n a j : Nat} {p : Bool} (h : quo d n a = some (j, p)) : a < j ∧ j < n ∧ d a = 34 ∧ d j = 34 := by
  unfold quo at h
  split at h
  · cases h
  · split at h
    · rename_i hq
      have := sc_le n (a + 1) true j p (by omega) h
      exact ⟨by omega, this.2.1, hq, this.2.2⟩
    · cases h
theorem quo_agree {d d' : Nat → Int} {n n' a j : Nat} {p : Bool} (h : quo d n a = some (j, p)) (hd : ∀ k, k ≤ j → d' k = d k) (hj : j < n') : quo d' n' a = some (j, p) := by
  have hle := quo_le h
  unfold quo at h ⊢
  rw [if_neg (by omega), hd a (by omega), if_pos hle.2.2.1]
  split at h
  · cases h
  · rw [if_pos hle.2.2.1] at h
    exact sc_agree n (a + 1) true j p (by omega) h (fun k _ hk => hd k hk) hj
theorem quo_cut {d : Nat → Int} {n n' a j : Nat} {p : Bool} (h : quo d n a = some (j, p)) (hn : n' ≤ j) : quo d n' a = none := by
  have hle := quo_le h
  unfold quo at h ⊢
  split
  · rfl
  · rw [if_pos hle.2.2.1]
    split at h
    · cases h
    · rw [if_pos hle.2.2.1] at h
      exact sc_cut (by omega) n (a + 1) true j p (by omega) h hn
end Go.Proofs.Qxb6600039a.Sc
