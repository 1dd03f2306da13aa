/-
  Number refuses what NumPlain says it refuses; zzBytes, jsb1ExpLetter; the row that the law builds.
-/
import Derived.Test.Qxb6600039aNumTail
import Derived.Test.Qxb6600039aNumFrac
import Derived.Test.Qxb6600039aNumExpN
import Derived.Test.Qxb6600039aNumExpS
import Derived.Test.Qxb6600039aNumPlain
namespace Go.Proofs.Qxb6600039a
open Go.RowKit Sc

theorem number_no (w : World) (S n c b off : Nat) (d : Nat → Int) (I : NumIn w S n c b off d) (h : Refused d n) :
    Calls Try.prog 26 #[.pointer (some ⟨S, 0, none⟩)] w fun e w' => e = .returned (.bool false) ∧ w = w' := by
  rcases h with ⟨i0, h1, h2⟩ | ⟨i0, i1, h1, h2, h3, h4⟩ | ⟨i0, i1, i2, h1, h2, h3, h4, h5⟩ | ⟨i0, i1, i2, h1, h2, h3, h4, h5, h6⟩
  · exact numA w S n c b off i0 d I h1 h2
  · exact numDot w S n c b off i0 i1 d I h1 h2 h3 h4
  · exact numTail w S n c b off i0 i1 d I h1 h2 (frac9 w S n c b off i1 i2 d I h3 (exp14N w S n c b off i2 d I h4 h5))
  · exact numTail w S n c b off i0 i1 d I h1 h2 (frac9 w S n c b off i1 i2 d I h3 (exp14S w S n c b off i2 d I h4 h5 h6))

theorem number_new (w : World) (B n c : Nat) (l : List Int) (hn : n ≤ 1048576) (hl : n = l.length) (hd : IsInts w .u8 (some ⟨B, 0, none⟩) n (by_ l)) (h : Refused (by_ l) l.length) :
    Calls Try.prog 26 #[.pointer (some ⟨w.heap.size, 0, none⟩)] (w.alloc (scnr (some ⟨B, 0, none⟩) n c 0)) fun e w' => e = .returned (.bool false) ∧ w.alloc (scnr (some ⟨B, 0, none⟩) n c 0) = w' := by
  have hr := World.rowIs_alloc w #[.slice (some ⟨B, 0, none⟩) n c, .int .i64 0, .int .i64 0, .int .i64 0] 46 (fun i => if i = 0 then .slice (some ⟨B, 0, none⟩) n c else .int .i64 0) (fun i hi => by
    match i, hi with
    | 0, _ => rfl
    | 1, _ => rfl
    | 2, _ => rfl
    | 3, _ => rfl)
  have c0 := hr.cell (i := 0) (by simp)
  have c1 := hr.cell (i := 1) (by simp)
  have hs : w.Since w.heap.size (w.alloc (scnr (some ⟨B, 0, none⟩) n c 0)) := (World.Since.refl _ _).alloc (Nat.le_refl _) _
  have hd1 := hd.since hs (Nat.le_refl _)
  refine number_no _ w.heap.size n c B 0 (by_ l) ⟨hn, c0, c1, fun k hk => ?_⟩ (by rw [hl]; exact h)
  obtain ⟨b, off, e, _, hc⟩ := hd1 (by omega)
  simp only [Option.some.injEq, Addr.mk.injEq] at e
  obtain ⟨rfl, rfl, _⟩ := e
  exact hc k hk

theorem exp_letter (x : Bool) (w : World) : Calls Try.prog 25 #[.bool x] w fun e w' => (∃ c, e = .returned (.int .u8 c) ∧ (c = 101 ∨ c = 69)) ∧ w = w' := by
  cases x <;>
    (go_enter Try.func25, Try.ntmps25
     go_wp2
     go_ret
     exact ⟨⟨_, rfl, by omega⟩, rfl⟩)

set_option maxHeartbeats 800000 in
theorem zzNumber (ng hb : Bool) (u sh b : Int) (a2 a3 a7 : Option Addr) (n2 n3 n7 c2 c3 c7 : Nat) (w : World) (_h2 : n2 ≤ maxLen) (_h3 : n3 ≤ maxLen) (_h7 : n7 ≤ maxLen) :
    Calls Try.prog 27 #[.bool ng, .int .u64 u, .slice a2 n2 c2, .slice a3 n3 c3, .int .u8 sh, .int .u8 b, .bool hb, .slice a7 n7 c7] w fun e w' => (∃ r, e = .returned (.bool r)) ∧ w.Since w.heap.size w' := by
  unfold maxLen at *
  go_enter Try.func27, Try.ntmps27
  go_wp2
  all_goals
    go_ret
    exact ⟨⟨_, rfl⟩, World.Since.refl _ _⟩

/-- The row under way: it holds l. -/
structure Bt (w : World) (B cap K : Nat) (l : List Int) (W : World) : Prop where
  own : W.ownsRow B 5 1 (.slice (some ⟨B, 0, none⟩) K cap) K (bl l)
  since : w.Since w.heap.size W
  low : w.heap.size ≤ B

theorem Bt.lt {w W : World} {B cap K : Nat} {l : List Int} (h : Bt w B cap K l W) : B < W.heap.size := (h.own.lt B rfl).2

theorem Bt.fit {w W W2 : World} {B cap K m : Nat} {l : List Int} {o : Obj} (h : Bt w B cap K l W) (news : List Int) (hown : W2.ownsRow B 5 1 (.slice (some ⟨B, 0, none⟩) (K + m) cap) (K + m) (bl l ++ bl news)) (hg : (W.alloc o).grownBy W2 (some B)) : Bt w B cap (K + m) (l ++ news) W2 where
  own := by rw [bl_app]; exact hown
  since := (h.since.alloc h.since.size _).grown hg (by have := h.since.size; simp; omega) (fun k hk => by cases hk; exact h.low)
  low := h.low

theorem Bt.fits {w W W2 : World} {B cap K m : Nat} {l : List Int} (h : Bt w B cap K l W) (news : List Int) (hown : W2.ownsRow B 5 1 (.slice (some ⟨B, 0, none⟩) (K + m) cap) (K + m) (bl l ++ bl news)) (hg : W.grownBy W2 (some B)) : Bt w B cap (K + m) (l ++ news) W2 where
  own := by rw [bl_app]; exact hown
  since := h.since.grown hg h.since.size (fun k hk => by cases hk; exact h.low)
  low := h.low

theorem Bt.digits {w W W2 : World} {B cap K m : Nat} {l ds : List Int} (h : Bt w B cap K l W) (hown : W2.ownsRow B 5 1 (.slice (some ⟨B, 0, none⟩) (K + m) cap) (K + m) (bl (l ++ ds))) (k : W.Since B W2) : Bt w B cap (K + m) (l ++ ds) W2 where
  own := hown
  since := h.since.trans ⟨k.os, k.tape, k.output, k.size, fun i hi => k.block i (Nat.lt_of_lt_of_le hi h.low)⟩
  low := h.low

theorem ownsRow_block {w w1 : World} {base : Nat} {e : TypeId} {size : Nat} {v : Value} {n : Nat} {xs : List Value} (h : w.ownsRow base e size v n xs) (hb : ∀ k, v.ownBlock = some k → w1.heap[k]? = w.heap[k]?) : w1.ownsRow base e size v n xs := by
  rcases h with ⟨h1, h2⟩
  refine ⟨h1, ?_⟩
  rcases h2 with h2 | ⟨g, cap, cur, hv, hb', hh, r⟩
  · exact .inl h2
  · refine .inr ⟨g, cap, cur, hv, hb', ?_, r⟩
    rw [hb g (by rw [hv]; rfl)]
    exact hh

theorem Bt.on {w W W2 : World} {B cap K : Nat} {l : List Int} (h : Bt w B cap K l W) (s : W.Since W.heap.size W2) : Bt w B cap K l W2 where
  own := ownsRow_block h.own (fun k hk => s.block k (by cases hk; exact h.lt))
  since := Since.step h.since s
  low := h.low

/-- A fraction, its digits perhaps none. -/
def FrX (F : List Int) : Prop := F = [] ∨ ∃ ds, F = 46 :: ds ∧ ∀ x ∈ ds, dig x = true

def Tl2 (t : List Int) : Prop := t = [] ∨ (0 < t.length ∧ dig (by_ t 0) = false ∧ by_ t 0 ≠ 43 ∧ by_ t 0 ≠ 45)

theorem ref2x {sg ip F t : List Int} {e : Int} (h : Sg sg) (hi : Ip ip) (he : e = 101 ∨ e = 69) (hF : FrX F) (ht : Tl2 t) : Refused (by_ (sg ++ ip ++ F ++ [e] ++ t)) (sg ++ ip ++ F ++ [e] ++ t).length := by
  rw [show sg ++ ip ++ F ++ [e] ++ t = sg ++ (ip ++ (F ++ (e :: t))) from by simp]
  rcases hF with rfl | ⟨ds, rfl, hd⟩
  · exact ref2 h hi he (.inl rfl) ht
  · by_cases hp : 0 < ds.length
    · exact ref2 h hi he (.inr ⟨ds, rfl, hp, hd⟩) ht
    · obtain rfl : ds = [] := List.eq_nil_of_length_eq_zero (by omega)
      exact ref1 h hi (tl_cons (by rcases he with rfl | rfl <;> decide))

theorem ref3x {sg ip F t : List Int} {e s : Int} (h : Sg sg) (hi : Ip ip) (he : e = 101 ∨ e = 69) (hs : s = 43 ∨ s = 45) (hF : FrX F) (ht : Tl t) : Refused (by_ (sg ++ ip ++ F ++ [e] ++ [s] ++ t)) (sg ++ ip ++ F ++ [e] ++ [s] ++ t).length := by
  rw [show sg ++ ip ++ F ++ [e] ++ [s] ++ t = sg ++ (ip ++ (F ++ (e :: s :: t))) from by simp]
  rcases hF with rfl | ⟨ds, rfl, hd⟩
  · exact ref3 h hi he hs (.inl rfl) ht
  · by_cases hp : 0 < ds.length
    · exact ref3 h hi he hs (.inr ⟨ds, rfl, hp, hd⟩) ht
    · obtain rfl : ds = [] := List.eq_nil_of_length_eq_zero (by omega)
      exact ref1 h hi (tl_cons (by rcases he with rfl | rfl <;> decide))

theorem ref1x {sg ip t : List Int} (h : Sg sg) (hi : Ip ip) (ht : Tl t) : Refused (by_ (sg ++ ip ++ [46] ++ t)) (sg ++ ip ++ [46] ++ t).length := by
  rw [show sg ++ ip ++ [46] ++ t = sg ++ (ip ++ (46 :: t)) from by simp]
  exact ref1 h hi ht

/-- The tail that the law lays. -/
def Lays (hb : Bool) (b : Int) (t : List Int) : Prop := (hb = false ∧ t = []) ∨ (hb = true ∧ ∃ r, t = b :: r)

theorem Lays.tl {hb : Bool} {b : Int} {t : List Int} (h : Lays hb b t) (hd : hb = true → dig b = false) : Tl t := by
  rcases h with ⟨_, rfl⟩ | ⟨h, r, rfl⟩
  · exact .inl rfl
  · exact tl_cons (hd h)
theorem Lays.tl2 {hb : Bool} {b : Int} {t : List Int} (h : Lays hb b t) (hd : hb = true → dig b = false ∧ (b == 43) = false ∧ (b == 45) = false) : Tl2 t := by
  rcases h with ⟨_, rfl⟩ | ⟨h, r, rfl⟩
  · exact .inl rfl
  · obtain ⟨h1, h2, h3⟩ := hd h
    exact .inr ⟨by simp, by simpa [by_] using h1, by simpa [by_] using h2, by simpa [by_] using h3⟩
theorem Lays.ref0 {ng hb : Bool} {b : Int} {sg t : List Int} (h : Lays hb b t) (hs : Sg sg) (hn : sg = [] → ng = false) (hd : hb = true → dig b = false ∧ (ng = false → (b == 45) = false)) : Refused (by_ (sg ++ t)) (sg ++ t).length := by
  refine Go.Proofs.Qxb6600039a.ref0 hs (h.tl fun e => (hd e).1) fun e => ?_
  rcases h with ⟨_, rfl⟩ | ⟨h, r, rfl⟩
  · exact .inl rfl
  · exact .inr ⟨by simp, by simpa [by_] using (hd h).2 (hn e)⟩

theorem range_by2 (l : List Int) : (List.range l.length).map (by_ l) = l := by
  apply List.ext_getElem?
  intro i
  by_cases h : i < l.length
  · simp [by_, List.getD, h]
  · rw [List.getElem?_eq_none (by simp; omega), List.getElem?_eq_none (by omega)]
end Go.Proofs.Qxb6600039a
