/-
  What looked computes (seat 061a), as plain lists; the map 'seen' as a function.
-/
import Derived.Test.Qxb6600061aKept
namespace Go.Proofs.Qxb6600061a

/-- x is named pending and not published. -/
def bad (pen pub : List Int) (x : Int) : Bool := decide (x ∈ pen) && !decide (x ∈ pub)
/-- The span, no longer watching the published. -/
def thin (pub : List Int) (s : Sp) : Sp := { s with wl := s.wl.filter (fun x => !decide (x ∈ pub)) }
/-- The span stays. -/
def stays (pen pub : List Int) (s : Sp) : Bool := !(s.wl.any (bad pen pub))
/-- What looked answers. -/
def lk (pen pub : List Int) (l : List Sp) : List Sp := (l.filter (stays pen pub)).map (thin pub)
/-- The first n spans. -/
def sl (S : Nat → Sp) (n : Nat) : List Sp := (List.range n).map S
theorem sl_len (S : Nat → Sp) (n : Nat) : (sl S n).length = n := by simp [sl]
theorem sl_succ (S : Nat → Sp) (k : Nat) : sl S (k + 1) = sl S k ++ [S k] := by simp [sl, List.range_succ]
theorem sl_at (S : Nat → Sp) (n i : Nat) (hi : i < n) : (sl S n).getD i default = S i := by simp [sl, List.getD, hi]

theorem lk_stay {pen pub : List Int} {S : Nat → Sp} {k : Nat} (h : (S k).wl.any (bad pen pub) = false) : lk pen pub (sl S (k + 1)) = lk pen pub (sl S k) ++ [thin pub (S k)] := by
  simp [lk, sl_succ, stays, h]
theorem lk_go {pen pub : List Int} {S : Nat → Sp} {k : Nat} (h : (S k).wl.any (bad pen pub) = true) : lk pen pub (sl S (k + 1)) = lk pen pub (sl S k) := by
  simp [lk, sl_succ, stays, h]
theorem lk_le (pen pub : List Int) (l : List Sp) : (lk pen pub l).length ≤ l.length := by
  unfold lk
  rw [List.length_map]
  exact List.length_filter_le _ _
theorem lk_none (l : List Sp) : lk [] [] l = l := by
  have h1 : stays [] [] = fun _ => true := by funext s; simp [stays, bad]
  have h2 : thin [] = id := by
    funext s
    have : s.wl.filter (fun x => !decide (x ∈ ([] : List Int))) = s.wl := List.filter_eq_self.2 (by simp)
    unfold thin
    rw [this]
    rfl
  unfold lk
  rw [h1, h2]
  simp

/-- The map behind k stores of s at the numbers f 0 .. f (k-1). -/
def gA (f : Nat → Int) (s : ByteArray) (g0 : Int → ByteArray) : Nat → Int → ByteArray
  | 0 => g0
  | k + 1 => upd (gA f s g0 k) (f k) s

theorem gA_at (f : Nat → Int) (s : ByteArray) (g0 : Int → ByteArray) (k : Nat) (x : Int) : gA f s g0 k x = if x ∈ ls f k then s else g0 x := by
  induction k with
  | zero => simp [gA, ls]
  | succ k ih =>
    show upd (gA f s g0 k) (f k) s x = _
    unfold upd
    rw [ih, ls_succ]
    by_cases e : x = f k
    · simp [e]
    · simp [e]

/-- The map at the end. -/
def gE (f1 : Nat → Int) (n1 : Nat) (f2 : Nat → Int) (n2 : Nat) : Int → ByteArray := gA f2 sPub (gA f1 sPend (fun _ => ⟨#[]⟩) n1) n2

theorem isP_gE (f1 : Nat → Int) (n1 : Nat) (f2 : Nat → Int) (n2 : Nat) (x : Int) : isP (gE f1 n1 f2 n2) x = bad (ls f1 n1) (ls f2 n2) x := by
  unfold isP bad gE
  rw [gA_at, gA_at]
  by_cases h2 : x ∈ ls f2 n2
  · rw [if_pos h2, ByteArray.toList_eq]; simp [h2, sPub]
  · rw [if_neg h2]
    by_cases h1 : x ∈ ls f1 n1
    · rw [if_pos h1, ByteArray.toList_eq]; simp [h1, h2, sPend]
    · rw [if_neg h1, ByteArray.toList_eq]; simp [h1]
theorem isQ_gE (f1 : Nat → Int) (n1 : Nat) (f2 : Nat → Int) (n2 : Nat) (x : Int) : isQ (gE f1 n1 f2 n2) x = decide (x ∈ ls f2 n2) := by
  unfold isQ gE
  rw [gA_at, gA_at]
  by_cases h2 : x ∈ ls f2 n2
  · rw [if_pos h2, ByteArray.toList_eq]; simp [h2, sPub]
  · rw [if_neg h2]
    by_cases h1 : x ∈ ls f1 n1
    · rw [if_pos h1, ByteArray.toList_eq]; simp [h2, sPend]
    · rw [if_neg h1, ByteArray.toList_eq]; simp [h2]

theorem any_gE (f1 : Nat → Int) (n1 : Nat) (f2 : Nat → Int) (n2 : Nat) (l : List Int) : (ls (fun i => l.getD i 0) l.length).any (isP (gE f1 n1 f2 n2)) = l.any (bad (ls f1 n1) (ls f2 n2)) := by
  rw [ls_getD, show isP (gE f1 n1 f2 n2) = bad (ls f1 n1) (ls f2 n2) from funext fun x => isP_gE f1 n1 f2 n2 x]
theorem kp_gE (f1 : Nat → Int) (n1 : Nat) (f2 : Nat → Int) (n2 : Nat) (s : Sp) : kp (isQ (gE f1 n1 f2 n2)) (fun i => s.wl.getD i 0) s.wl.length = (thin (ls f2 n2) s).wl := by
  unfold kp thin
  rw [ls_getD]
  congr 1
  funext x
  rw [isQ_gE]
end Go.Proofs.Qxb6600061a
