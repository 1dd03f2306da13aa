/-
  A Scanner that the law makes, and Quoted upon it.
-/
import Derived.Test.Qxb6600039aQuoted
namespace Go.Proofs.Qxb6600039a
open Go.RowKit Sc

/-- The block that ZZB1New lays. -/
def scnr (a : Option Addr) (n c : Nat) (at_ : Nat) : Obj := .cells #[.slice a n c, .int .i64 at_, .int .i64 0, .int .i64 0] 46

theorem new_any (w : World) (a : Option Addr) (n c at_ : Nat) : Calls Try.prog 11 #[.slice a n c, .int .i64 at_] w fun e w' => e = .returned (.pointer (some ⟨w.heap.size, 0, none⟩)) ∧ w.alloc (scnr a n c at_) = w' := by
  go_enter Try.func11, Try.ntmps11
  go_wp2
  go_ret
  exact ⟨rfl, rfl⟩

theorem new_zero (w : World) (a : Option Addr) (n c : Nat) : Calls Try.prog 11 #[.slice a n c, .int .i64 0] w fun e w' => e = .returned (.pointer (some ⟨w.heap.size, 0, none⟩)) ∧ w.alloc (scnr a n c 0) = w' := new_any w a n c 0

theorem at_any (w : World) (S : Nat) (x : Int) (h : w.cell? ⟨S, 1, none⟩ = some (.int .i64 x)) : Calls Try.prog 15 #[.pointer (some ⟨S, 0, none⟩)] w fun e w' => e = .returned (.int .i64 x) ∧ w = w' := by
  go_enter Try.func15, Try.ntmps15
  go_wp2
  go_ret
  exact ⟨rfl, rfl⟩

/-- What Quoted leaves upon a new Scanner. -/
def QNew (d : Nat → Int) (at_ : Nat) (R : Option (Nat × Bool)) (w : World) (e : Ending) (w' : World) : Prop :=
  match R with
  | none => e = .returned (.tuple #[.slice none 0 0, .bool false, .bool false]) ∧ w.Since w.heap.size w' ∧ w'.cell? ⟨w.heap.size, 1, none⟩ = some (.int .i64 at_)
  | some (j, p) => ∃ a' c', e = .returned (.tuple #[.slice a' (j - (at_ + 1)) c', .bool p, .bool true]) ∧ IsInts w' .u8 a' (j - (at_ + 1)) (fun k => d (at_ + 1 + k)) ∧ w.Since w.heap.size w' ∧ w'.cell? ⟨w.heap.size, 1, none⟩ = some (.int .i64 ((j : Int) + 1))

theorem quoted_new (w : World) (a : Option Addr) (n c at_ : Nat) (d : Nat → Int) (hn : n ≤ 1048576) (hcn : n ≤ c) (ha : at_ ≤ n) (hd : IsInts w .u8 a n d) :
    Calls Try.prog 12 #[.pointer (some ⟨w.heap.size, 0, none⟩)] (w.alloc (scnr a n c at_)) (QNew d at_ (quo d n at_) w) := by
  have hs : w.Since w.heap.size (w.alloc (scnr a n c at_)) := (World.Since.refl _ _).alloc (Nat.le_refl _) _
  have hr := World.rowIs_alloc w #[.slice a n c, .int .i64 at_, .int .i64 0, .int .i64 0] 46 (fun i => if i = 0 then .slice a n c else if i = 1 then .int .i64 at_ else .int .i64 0) (fun i hi => by
    match i, hi with
    | 0, _ => rfl
    | 1, _ => rfl
    | 2, _ => rfl
    | 3, _ => rfl)
  have c0 := hr.cell (i := 0) (by simp)
  have c1 := hr.cell (i := 1) (by simp)
  have hd1 : IsInts (w.alloc (scnr a n c at_)) .u8 a n d := hd.since hs (Nat.le_refl _)
  refine (quoted_any (w.alloc (scnr a n c at_)) w.heap.size n c at_ a d hn hcn ha c0 c1 (hr.frozen 1) hd1).mono ?_
  intro e w' h
  cases hR : quo d n at_ with
  | none =>
    rw [hR] at h
    obtain ⟨he, m, rfl⟩ := h
    exact ⟨he, Since.drewN hs m, c1⟩
  | some x =>
    obtain ⟨j, p⟩ := x
    rw [hR] at h
    obtain ⟨a', c', he, hloc, m, rfl⟩ := h
    have hj := quo_le hR
    have hs2 : w.Since w.heap.size (((w.alloc (scnr a n c at_)).drewN m).setCell ⟨w.heap.size, 1, none⟩ (.int .i64 ((j : Int) + 1))) := (Since.drewN hs m).setCell (Nat.le_refl _) _
    refine ⟨a', c', he, ?_, hs2, ?_⟩
    · intro hlen
      obtain ⟨b, off, ea, hb, hc⟩ := hd (by omega)
      refine ⟨b, off + (at_ + 1), hloc (by omega) b off ea, Nat.lt_of_lt_of_le hb hs2.size, fun i hi => ?_⟩
      rw [hs2.cell (a := ⟨b, off + (at_ + 1) + i, none⟩) hb, show off + (at_ + 1) + i = off + (at_ + 1 + i) from by omega]
      exact hc (at_ + 1 + i) (by omega)
    · have hr2 : ((w.alloc (scnr a n c at_)).drewN m).rowIs w.heap.size 46 4 (fun i => if i = 0 then .slice a n c else if i = 1 then .int .i64 at_ else .int .i64 0) := hr
      have := (hr2.set 1 (.int .i64 ((j : Int) + 1))).cell (i := 1) (by omega)
      simpa using this

/-- Clone, whatever comes. -/
theorem clone_any (w : World) (a : Option Addr) (n c : Nat) (f : Nat → Int) (hn : n ≤ 1048576) (hnil : a = none → n = 0 ∧ c = 0) (h : IsInts w .u8 a n f) :
    Calls Try.prog 20 #[.slice a n c] w fun e w' => ∃ a', e = .returned (.slice a' n n) ∧ (a' = none ∧ n = 0 ∨ ∃ b, a' = some ⟨b, 0, none⟩) ∧ IsInts w' .u8 a' n f ∧ w.Since w.heap.size w' := by
  cases a with
  | none =>
    obtain ⟨rfl, rfl⟩ := hnil rfl
    exact (clone_nil w).mono fun e w' ⟨he, hw⟩ => ⟨none, he, .inl ⟨rfl, rfl⟩, fun h => absurd h (by omega), hw ▸ World.Since.refl _ _⟩
  | some a => exact (clone_some w a n c f hn h).mono fun e w' ⟨he, hs, hr⟩ => ⟨_, he, .inr ⟨_, rfl⟩, rowIs.isInts hr, hs⟩
end Go.Proofs.Qxb6600039a
