/-
  What Number refuses, said by lists.
-/
import Derived.Test.Qxb6600039aItoa
import Derived.Test.Qxb6600039aNumDot
namespace Go.Proofs.Qxb6600039a
open Go.RowKit Sc

theorem by_l (A B : List Int) {i : Nat} (h : i < A.length) : by_ (A ++ B) i = by_ A i := by
  simp [by_, List.getD, List.getElem?_append_left h]
theorem by_r (A B : List Int) (k : Nat) : by_ (A ++ B) (A.length + k) = by_ B k := by
  simp [by_, List.getD, List.getElem?_append_right]
theorem by_r0 (A B : List Int) : by_ (A ++ B) A.length = by_ B 0 := by_r A B 0
theorem by_mem {A : List Int} {i : Nat} (h : i < A.length) : by_ A i ∈ A := by
  simp [by_, List.getD, h]

/-- A tail that begins with no digit. -/
def Tl (t : List Int) : Prop := t = [] ∨ (0 < t.length ∧ dig (by_ t 0) = false)

theorem nodig_of {A t : List Int} (h : Tl t) : NoDig (by_ (A ++ t)) (A ++ t).length A.length := by
  rcases h with rfl | ⟨h1, h2⟩
  · exact .inl (by simp)
  · exact .inr ⟨by simp; omega, by rw [by_r0]; exact h2⟩

theorem run_of {A ds t : List Int} (hd : ∀ x ∈ ds, dig x = true) (h : Tl t) : Run (by_ (A ++ (ds ++ t))) (A ++ (ds ++ t)).length A.length (A.length + ds.length) where
  le := by omega
  len := by simp only [List.length_append]; omega
  yes := fun k k1 k2 => by
    obtain ⟨j, rfl⟩ : ∃ j, k = A.length + j := ⟨k - A.length, by omega⟩
    rw [by_r, by_l _ _ (by omega)]
    exact hd _ (by_mem (by omega))
  no := fun hlt => by
    rw [by_r, by_r0]
    rcases h with rfl | ⟨h1, h2⟩
    · simp at hlt
    · exact h2

def Sg (sg : List Int) : Prop := sg = [] ∨ sg = [45]

/-- The integer part. -/
structure Ip (ip : List Int) : Prop where
  pos : 0 < ip.length
  all : ∀ x ∈ ip, dig x = true
  zero : by_ ip 0 = 48 → ip.length = 1

theorem neg_of {sg t : List Int} (h : Sg sg) (ht : sg = [] → t = [] ∨ (0 < t.length ∧ by_ t 0 ≠ 45)) : Neg (by_ (sg ++ t)) (sg ++ t).length sg.length := by
  rcases h with rfl | rfl
  · rcases ht rfl with rfl | ⟨h1, h2⟩
    · exact .inl ⟨rfl, .inl rfl⟩
    · exact .inl ⟨rfl, .inr ⟨by simpa using h1, by simpa using h2⟩⟩
  · exact .inr ⟨rfl, by simp, by simp [by_]⟩

theorem dig_ne {x : Int} (h : dig x = true) : x ≠ 45 := by
  have := dig_true h
  omega

theorem neg_ip {sg ip t : List Int} (h : Sg sg) (hi : Ip ip) : Neg (by_ (sg ++ (ip ++ t))) (sg ++ (ip ++ t)).length sg.length :=
  neg_of h fun _ => .inr ⟨by have := hi.pos; simp only [List.length_append]; omega, by rw [by_l _ _ hi.pos]; exact dig_ne (hi.all _ (by_mem hi.pos))⟩

theorem int_of {sg ip t : List Int} (hi : Ip ip) (ht : Tl t) : IntPart (by_ (sg ++ (ip ++ t))) (sg ++ (ip ++ t)).length sg.length (sg.length + ip.length) := by
  have hp := hi.pos
  have h0 : by_ (sg ++ (ip ++ t)) sg.length = by_ ip 0 := by rw [by_r0, by_l _ _ hp]
  refine ⟨by simp only [List.length_append]; omega, ?_⟩
  rw [h0]
  by_cases e : by_ ip 0 = 48
  · exact .inl ⟨by simp [e], by rw [hi.zero e]⟩
  · have := dig_true (hi.all _ (by_mem hp))
    exact .inr ⟨by simp [e], by omega, by omega, run_of hi.all ht⟩

/-- All ways on which Number refuses that the law meets. -/
def Refused (d : Nat → Int) (n : Nat) : Prop :=
  (∃ i0, Neg d n i0 ∧ NoDig d n i0) ∨
  (∃ i0 i1, Neg d n i0 ∧ IntPart d n i0 i1 ∧ (i1 < n ∧ (d i1 == 46) = true) ∧ NoDig d n (i1 + 1)) ∨
  (∃ i0 i1 i2, Neg d n i0 ∧ IntPart d n i0 i1 ∧ FracPart d n i1 i2 ∧ (i2 < n ∧ (((d i2 == 101) = true) ∨ ((d i2 == 101) = false ∧ (d i2 == 69) = true))) ∧
    (n = i2 + 1 ∨ (i2 + 1 < n ∧ (d (i2 + 1) == 43) = false ∧ (d (i2 + 1) == 45) = false ∧ dig (d (i2 + 1)) = false))) ∨
  (∃ i0 i1 i2, Neg d n i0 ∧ IntPart d n i0 i1 ∧ FracPart d n i1 i2 ∧ (i2 < n ∧ (((d i2 == 101) = true) ∨ ((d i2 == 101) = false ∧ (d i2 == 69) = true))) ∧
    (i2 + 1 < n ∧ ((d (i2 + 1) == 43) = true ∨ ((d (i2 + 1) == 43) = false ∧ (d (i2 + 1) == 45) = true))) ∧ NoDig d n (i2 + 2))

theorem ref0 {sg t : List Int} (h : Sg sg) (ht : Tl t) (hm : sg = [] → t = [] ∨ (0 < t.length ∧ by_ t 0 ≠ 45)) : Refused (by_ (sg ++ t)) (sg ++ t).length :=
  .inl ⟨sg.length, neg_of h hm, nodig_of ht⟩

theorem tl_cons {c : Int} {t : List Int} (h : dig c = false) : Tl (c :: t) := .inr ⟨by simp, by simpa [by_] using h⟩

theorem ref1 {sg ip t : List Int} (h : Sg sg) (hi : Ip ip) (ht : Tl t) : Refused (by_ (sg ++ (ip ++ (46 :: t)))) (sg ++ (ip ++ (46 :: t))).length := by
  have e1 : sg ++ (ip ++ (46 :: t)) = (sg ++ ip) ++ (46 :: t) := by simp
  have e2 : sg ++ (ip ++ (46 :: t)) = (sg ++ ip ++ [46]) ++ t := by simp
  refine .inr (.inl ⟨sg.length, sg.length + ip.length, neg_ip h hi, int_of hi (tl_cons (by decide)), ⟨by simp only [List.length_append, List.length_cons]; omega, ?_⟩, ?_⟩)
  · rw [e1, ← List.length_append, by_r0]; rfl
  · rw [e2, show sg.length + ip.length + 1 = (sg ++ ip ++ [46]).length from by simp only [List.length_append, List.length_cons, List.length_nil]]
    exact nodig_of ht

/-- A fraction or none, with digits. -/
def Fr (F : List Int) : Prop := F = [] ∨ ∃ ds, F = 46 :: ds ∧ 0 < ds.length ∧ ∀ x ∈ ds, dig x = true

theorem frac_of {A F t : List Int} {e : Int} (he : e = 101 ∨ e = 69) (hF : Fr F) : FracPart (by_ (A ++ (F ++ (e :: t)))) (A ++ (F ++ (e :: t))).length A.length (A.length + F.length) := by
  refine ⟨by simp; omega, ?_⟩
  rcases hF with rfl | ⟨ds, rfl, hp, hd⟩
  · exact .inl ⟨by rw [by_r0]; rcases he with rfl | rfl <;> rfl, rfl⟩
  · refine .inr ⟨by rw [by_r0]; rfl, by simp; omega, ?_, ?_⟩
    · rw [by_r, show by_ ((46 :: ds) ++ e :: t) 1 = by_ (ds ++ e :: t) 0 from rfl, by_l _ _ hp]
      exact hd _ (by_mem hp)
    · have e1 : A ++ ((46 :: ds) ++ e :: t) = (A ++ [46]) ++ (ds ++ e :: t) := by simp
      rw [e1, show A.length + 1 = (A ++ [46]).length from by simp, show A.length + (46 :: ds).length = (A ++ [46]).length + ds.length from by simp; omega]
      exact run_of hd (tl_cons (by rcases he with rfl | rfl <;> decide))

theorem tl_frac {F t : List Int} {e : Int} (he : e = 101 ∨ e = 69) (hF : Fr F) : Tl (F ++ e :: t) := by
  rcases hF with rfl | ⟨ds, rfl, _, _⟩
  · exact tl_cons (by rcases he with rfl | rfl <;> decide)
  · exact tl_cons (by decide)

theorem exp_at {A F t : List Int} {e : Int} (he : e = 101 ∨ e = 69) : A.length + F.length < (A ++ (F ++ (e :: t))).length ∧ (((by_ (A ++ (F ++ (e :: t))) (A.length + F.length) == 101) = true) ∨ ((by_ (A ++ (F ++ (e :: t))) (A.length + F.length) == 101) = false ∧ (by_ (A ++ (F ++ (e :: t))) (A.length + F.length) == 69) = true)) := by
  refine ⟨by simp only [List.length_append, List.length_cons]; omega, ?_⟩
  rw [by_r, by_r0]
  rcases he with rfl | rfl
  · exact .inl rfl
  · exact .inr ⟨rfl, rfl⟩

theorem ref2 {sg ip F t : List Int} {e : Int} (h : Sg sg) (hi : Ip ip) (he : e = 101 ∨ e = 69) (hF : Fr F) (ht : t = [] ∨ (0 < t.length ∧ dig (by_ t 0) = false ∧ by_ t 0 ≠ 43 ∧ by_ t 0 ≠ 45)) : Refused (by_ (sg ++ (ip ++ (F ++ (e :: t))))) (sg ++ (ip ++ (F ++ (e :: t)))).length := by
  have e1 : sg ++ (ip ++ (F ++ (e :: t))) = (sg ++ ip) ++ (F ++ (e :: t)) := by simp
  have h1 := int_of (sg := sg) hi (tl_frac (t := t) he hF)
  have h2 := frac_of (A := sg ++ ip) (t := t) he hF
  have h3 := exp_at (A := sg ++ ip) (F := F) (t := t) he
  rw [← e1, show (sg ++ ip).length = sg.length + ip.length from List.length_append] at h2 h3
  refine .inr (.inr (.inl ⟨_, _, _, neg_ip h hi, h1, h2, h3, ?_⟩))
  have e2 : sg ++ (ip ++ (F ++ (e :: t))) = (sg ++ ip ++ F ++ [e]) ++ t := by simp
  rw [e2, show sg.length + ip.length + F.length + 1 = (sg ++ ip ++ F ++ [e]).length from by simp; omega, by_r0]
  rcases ht with rfl | ⟨t1, t2, t3, t4⟩
  · exact .inl (by simp)
  · exact .inr ⟨by simp; omega, by simpa using t3, by simpa using t4, t2⟩

theorem ref3 {sg ip F t : List Int} {e s : Int} (h : Sg sg) (hi : Ip ip) (he : e = 101 ∨ e = 69) (hs : s = 43 ∨ s = 45) (hF : Fr F) (ht : Tl t) : Refused (by_ (sg ++ (ip ++ (F ++ (e :: s :: t))))) (sg ++ (ip ++ (F ++ (e :: s :: t)))).length := by
  have e1 : sg ++ (ip ++ (F ++ (e :: s :: t))) = (sg ++ ip) ++ (F ++ (e :: s :: t)) := by simp
  have h1 := int_of (sg := sg) hi (tl_frac (t := s :: t) he hF)
  have h2 := frac_of (A := sg ++ ip) (t := s :: t) he hF
  have h3 := exp_at (A := sg ++ ip) (F := F) (t := s :: t) he
  rw [← e1, show (sg ++ ip).length = sg.length + ip.length from List.length_append] at h2 h3
  refine .inr (.inr (.inr ⟨_, _, _, neg_ip h hi, h1, h2, h3, ?_, ?_⟩))
  · have e2 : sg ++ (ip ++ (F ++ (e :: s :: t))) = (sg ++ ip ++ F ++ [e]) ++ (s :: t) := by simp
    rw [e2, show sg.length + ip.length + F.length + 1 = (sg ++ ip ++ F ++ [e]).length from by simp; omega, by_r0]
    refine ⟨by simp only [List.length_append, List.length_cons]; omega, ?_⟩
    rcases hs with rfl | rfl
    · exact .inl rfl
    · exact .inr ⟨rfl, rfl⟩
  · have e2 : sg ++ (ip ++ (F ++ (e :: s :: t))) = (sg ++ ip ++ F ++ [e, s]) ++ t := by simp
    rw [e2, show sg.length + ip.length + F.length + 2 = (sg ++ ip ++ F ++ [e, s]).length from by simp; omega]
    exact nodig_of ht

theorem ip_of {u : Int} {out more : List Int} (h : Itoa u out) (hm : ∀ x ∈ more, dig x = true) (hz : u = 0 → more = []) : Ip (out ++ more) := by
  rcases h with ⟨h0, rfl⟩ | ⟨h0, h1, _, h3, h4⟩
  · rw [hz h0]
    exact ⟨by simp, by intro x hx; simp at hx; subst hx; decide, fun _ => rfl⟩
  · refine ⟨by simp only [List.length_append]; omega, fun x hx => ?_, fun e => ?_⟩
    · rcases List.mem_append.1 hx with hx | hx
      · exact h3 x hx
      · exact hm x hx
    · rw [by_l _ _ h1] at e
      exact absurd e h4
end Go.Proofs.Qxb6600039a
