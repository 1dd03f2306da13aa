/-
  THE PLAIN MATHEMATICS of broken strings: what an encoder writes passes the scan; every way of breaking it off is refused.
-/
import Derived.Test.Qxb6600039aScanPlain
namespace Go.Proofs.Qxb6600039a.Sc

def by_ (l : List Int) (i : Nat) : Int := l.getD i 0

theorem by_at (pre post : List Int) (c : Int) : by_ (pre ++ c :: post) pre.length = c := by simp [by_]
theorem by_at' (pre chunk post : List Int) (k : Nat) (hk : k < chunk.length) : by_ (pre ++ (chunk ++ post)) (pre.length + k) = chunk.getD k 0 := by
  simp [by_, List.getD, List.getElem?_append_right, List.getElem?_append_left hk]

/-- The scan passes over 'out', wherever it stands. -/
def Passes (out : List Int) : Prop := ∀ (pre post : List Int) (p : Bool), ∃ p', sc (by_ (pre ++ (out ++ post))) (pre ++ (out ++ post)).length pre.length p = sc (by_ (pre ++ (out ++ post))) (pre ++ (out ++ post)).length (pre.length + out.length) p'

theorem Passes.nil : Passes [] := fun _ _ p => ⟨p, rfl⟩
theorem Passes.app {a b : List Int} (ha : Passes a) (hb : Passes b) : Passes (a ++ b) := by
  intro pre post p
  obtain ⟨p1, h1⟩ := ha pre (b ++ post) p
  obtain ⟨p2, h2⟩ := hb (pre ++ a) post p1
  refine ⟨p2, ?_⟩
  have e : pre ++ (a ++ b ++ post) = pre ++ (a ++ (b ++ post)) := by simp
  have e2 : pre ++ (a ++ (b ++ post)) = pre ++ a ++ (b ++ post) := by simp
  rw [e, h1, e2, show pre.length + a.length = (pre ++ a).length from by simp, h2, show (pre ++ a).length + b.length = pre.length + (a ++ b).length from by simp only [List.length_append]; omega]

theorem passes_of {out : List Int} (h : ∀ (pre post : List Int), ∃ e, out ≠ [] ∧ ¬ by_ (pre ++ (out ++ post)) pre.length = 34 ∧ stp (by_ (pre ++ (out ++ post))) (pre ++ (out ++ post)).length pre.length = some (pre.length + out.length, e)) : Passes out := by
  intro pre post p
  obtain ⟨e, hne, hq, hs⟩ := h pre post
  have hpos : 0 < out.length := List.length_pos_iff.2 hne
  exact ⟨_, sc_step p (by simp; omega) hq hs⟩

theorem passes_one {c : Int} (h1 : ¬ c < 32) (h2 : ¬ c = 34) (h3 : ¬ c = 92) : Passes [c] := by
  refine passes_of fun pre post => ⟨false, by simp, ?_, ?_⟩
  · have := by_at' pre [c] post 0 (by simp)
    simp only [Nat.add_zero] at this
    rw [this]; exact h2
  · have := by_at' pre [c] post 0 (by simp)
    simp only [Nat.add_zero] at this
    unfold stp
    rw [this]
    show (if c < 32 then none else if c = 92 then _ else some (pre.length + 1, false)) = _
    rw [if_neg h1, if_neg h3]; rfl

theorem passes_two {c : Int} (h : escB c = true) : Passes [92, c] := by
  refine passes_of fun pre post => ⟨true, by simp, ?_, ?_⟩
  · have := by_at' pre [92, c] post 0 (by simp)
    simp only [Nat.add_zero] at this
    rw [this]; show ¬ (92 : Int) = 34; decide
  · have g0 := by_at' pre [92, c] post 0 (by simp)
    have g1 := by_at' pre [92, c] post 1 (by simp)
    simp only [Nat.add_zero] at g0
    unfold stp
    rw [g0, g1]
    show (if (92 : Int) < 32 then none else if (92 : Int) = 92 then if (pre ++ ([92, c] ++ post)).length ≤ pre.length + 1 then none else if escB c = true then some (pre.length + 2, true) else _ else _) = _
    rw [if_neg (by decide), if_pos rfl, if_neg (by simp), if_pos h]; rfl

theorem passes_six {a b c d : Int} (h1 : hexB a = true) (h2 : hexB b = true) (h3 : hexB c = true) (h4 : hexB d = true) : Passes [92, 117, a, b, c, d] := by
  refine passes_of fun pre post => ⟨true, by simp, ?_, ?_⟩
  · have := by_at' pre [92, 117, a, b, c, d] post 0 (by simp)
    simp only [Nat.add_zero] at this
    rw [this]; show ¬ (92 : Int) = 34; decide
  · have g0 := by_at' pre [92, 117, a, b, c, d] post 0 (by simp)
    have g1 := by_at' pre [92, 117, a, b, c, d] post 1 (by simp)
    have g2 := by_at' pre [92, 117, a, b, c, d] post 2 (by simp)
    have g3 := by_at' pre [92, 117, a, b, c, d] post 3 (by simp)
    have g4 := by_at' pre [92, 117, a, b, c, d] post 4 (by simp)
    have g5 := by_at' pre [92, 117, a, b, c, d] post 5 (by simp)
    simp only [Nat.add_zero] at g0
    have hx : hex4 (by_ (pre ++ ([92, 117, a, b, c, d] ++ post))) (pre.length + 2) = true := by
      unfold hex4
      rw [g2, show pre.length + 2 + 1 = pre.length + 3 from rfl, g3, show pre.length + 2 + 2 = pre.length + 4 from rfl, g4, show pre.length + 2 + 3 = pre.length + 5 from rfl, g5]
      simp [h1, h2, h3, h4]
    unfold stp
    rw [g0, g1]
    show (if (92 : Int) < 32 then none else if (92 : Int) = 92 then if (pre ++ ([92, 117, a, b, c, d] ++ post)).length ≤ pre.length + 1 then none else if escB 117 = true then _ else if (117 : Int) = 117 then (if (pre ++ ([92, 117, a, b, c, d] ++ post)).length ≤ pre.length + 5 then none else if hex4 (by_ (pre ++ ([92, 117, a, b, c, d] ++ post))) (pre.length + 2) = true then some (pre.length + 6, true) else none) else none else _) = _
    rw [if_neg (by decide), if_pos rfl, if_neg (by simp), if_neg (by decide), if_pos rfl, if_neg (by simp), if_pos hx]; rfl

/-- A string that opens, passes 'out', and then is refused. -/
theorem broken {out tail : List Int} (h : Passes out) (hr : ∀ p, sc (by_ (34 :: (out ++ tail))) (34 :: (out ++ tail)).length (1 + out.length) p = none) : quo (by_ (34 :: (out ++ tail))) (34 :: (out ++ tail)).length 0 = none := by
  unfold quo
  rw [if_neg (by simp), if_pos (by simp [by_])]
  obtain ⟨p', hp⟩ := h [34] tail true
  exact hp.trans (hr p')

theorem get_tail (out tail : List Int) (k : Nat) : by_ (34 :: (out ++ tail)) (1 + out.length + k) = tail.getD k 0 := by
  unfold by_
  rw [show 1 + out.length + k = (out.length + k) + 1 from by omega]
  simp [List.getD, List.getElem?_append_right]
theorem get_tail0 (out tail : List Int) : by_ (34 :: (out ++ tail)) (1 + out.length) = tail.getD 0 0 := get_tail out tail 0
theorem len_tail (out tail : List Int) : (34 :: (out ++ tail) : List Int).length = 1 + out.length + tail.length := by simp; omega

theorem broken0 {out : List Int} (h : Passes out) : quo (by_ (34 :: (out ++ []))) (34 :: (out ++ []) : List Int).length 0 = none :=
  broken h fun p => sc_end _ p (by simp; omega)
theorem broken1 {out rest : List Int} {c : Int} (h : Passes out) (hc : c < 32) : quo (by_ (34 :: (out ++ c :: rest))) (34 :: (out ++ c :: rest) : List Int).length 0 = none :=
  broken h fun p => sc_none p (by rw [len_tail]; simp) (by rw [get_tail0]; simp; omega) (by unfold stp; rw [get_tail0, if_pos (by simpa using hc)])
theorem broken2 {out rest : List Int} {c : Int} (h : Passes out) (h1 : escB c = false) (h2 : ¬ c = 117) : quo (by_ (34 :: (out ++ 92 :: c :: rest))) (34 :: (out ++ 92 :: c :: rest) : List Int).length 0 = none :=
  broken h fun p => sc_none p (by rw [len_tail]; simp) (by rw [get_tail0]; simp) (by
    unfold stp
    rw [get_tail0, get_tail out _ 1, len_tail]
    simp [h1, h2])
theorem broken3 {out : List Int} (h : Passes out) : quo (by_ (34 :: (out ++ [92]))) (34 :: (out ++ [92]) : List Int).length 0 = none :=
  broken h fun p => sc_none p (by rw [len_tail]; simp) (by rw [get_tail0]; simp) (by
    unfold stp
    rw [get_tail0, len_tail]
    simp)
theorem broken4 {out rest : List Int} {a b c d : Int} (h : Passes out) (hx : ¬ (hexB a = true ∧ hexB b = true ∧ hexB c = true ∧ hexB d = true)) :
    quo (by_ (34 :: (out ++ 92 :: 117 :: a :: b :: c :: d :: rest))) (34 :: (out ++ 92 :: 117 :: a :: b :: c :: d :: rest) : List Int).length 0 = none :=
  broken h fun p => sc_none p (by rw [len_tail]; simp) (by rw [get_tail0]; simp) (by
    have hh : hex4 (by_ (34 :: (out ++ 92 :: 117 :: a :: b :: c :: d :: rest))) (1 + out.length + 2) = false := by
      unfold hex4
      rw [get_tail out _ 2, show 1 + out.length + 2 + 1 = 1 + out.length + 3 from rfl, get_tail out _ 3, show 1 + out.length + 2 + 2 = 1 + out.length + 4 from rfl, get_tail out _ 4, show 1 + out.length + 2 + 3 = 1 + out.length + 5 from rfl, get_tail out _ 5]
      simp only [List.getD_cons_succ, List.getD_cons_zero]
      cases ha : hexB a <;> cases hb : hexB b <;> cases hc : hexB c <;> cases hd : hexB d <;> simp_all
    unfold stp
    rw [get_tail0, get_tail out _ 1, len_tail, hh]
    simp [escB])
theorem broken5 {out tail : List Int} (h : Passes out) (ht : tail.length ≤ 3) : quo (by_ (34 :: (out ++ 92 :: 117 :: tail))) (34 :: (out ++ 92 :: 117 :: tail) : List Int).length 0 = none :=
  broken h fun p => sc_none p (by rw [len_tail]; simp) (by rw [get_tail0]; simp) (by
    unfold stp
    rw [get_tail0, get_tail out _ 1, len_tail]
    simp [escB]
    omega)
end Go.Proofs.Qxb6600039a.Sc
