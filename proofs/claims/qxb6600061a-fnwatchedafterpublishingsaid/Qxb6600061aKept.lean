/-
  The row 'kept' of looked (seat 061a): spans appended one by one, each with a watch of its own.
-/
import Derived.Test.Qxb6600061aDel
import Derived.Test.Qxb6600061aCopy
import Derived.Maps.AppendAt
namespace Go.Proofs.Qxb6600061a
open Go.RowKit Go.Maps

/-- A span with the slice value of its watch. -/
structure SpV where
  s : Sp
  wa : Option Addr
  wc : Nat

def SpV.cells (z : SpV) : List Value := [.int .i64 z.s.lo, .int .i64 z.s.hi, .map none, .int .i64 z.s.pend, .slice z.wa z.s.wl.length z.wc]
theorem SpV.len (z : SpV) : z.cells.length = 5 := rfl
theorem SpV.one (z : SpV) : ∀ u ∈ z.cells, u.oneCell' = true := by
  intro u hu
  simp only [SpV.cells, List.mem_cons, List.not_mem_nil, or_false] at hu
  rcases hu with rfl | rfl | rfl | rfl | rfl <;> rfl

theorem flat_len (Z : List SpV) : (Z.flatMap SpV.cells).length = Z.length * 5 := by
  induction Z with
  | nil => rfl
  | cons z r ih => rw [List.flatMap_cons, List.length_append, ih, SpV.len, List.length_cons]; omega

theorem flat_at (Z : List SpV) : ∀ (i j : Nat) (hi : i < Z.length), j < 5 → (Z.flatMap SpV.cells)[i * 5 + j]? = (Z[i].cells)[j]? := by
  induction Z with
  | nil => intro i j hi; simp at hi
  | cons z r ih =>
    intro i j hi hj
    rw [List.flatMap_cons]
    cases i with
    | zero => rw [Nat.zero_mul, Nat.zero_add, List.getElem?_append_left (by rw [SpV.len]; exact hj)]; rfl
    | succ i =>
      rw [List.getElem?_append_right (by rw [SpV.len]; omega), SpV.len, show (i + 1) * 5 + j - 5 = i * 5 + j by omega, ih i j (by simpa using hi) hj]
      rfl

/-- The watch of z can be read in w, and lies in no block that v owns. -/
structure WatchOk (w : World) (v : Value) (z : SpV) : Prop where
  nil : z.wa = none → z.s.wl = [] ∧ z.wc = 0
  list : IsList w z.wa z.s.wl
  apart : 0 < z.s.wl.length → ∀ x, z.wa = some x → v.ownBlock ≠ some x.block

/-- The value v is a row of the call's own that holds the spans L. -/
def KeptIs (base : Nat) (w : World) (v : Value) (L : List Sp) : Prop :=
  ∃ Z : List SpV, Z.map (·.s) = L ∧ w.ownsRow base 64 5 v Z.length (Z.flatMap SpV.cells) ∧ ∀ z ∈ Z, WatchOk w v z

theorem KeptIs.nil (base : Nat) (w : World) : KeptIs base w (.slice none 0 0) [] := ⟨[], rfl, World.ownsRow_nil _ _ _ _, fun z hz => by simp at hz⟩

theorem Since.grownNone {w w' : World} (h : w.Since w.heap.size w') : w.grownBy w' none := ⟨h.os, h.tape, h.output, h.size, fun k hk _ => h.block k hk⟩

theorem KeptIs.since {base : Nat} {w w' : World} {v : Value} {L : List Sp} (h : KeptIs base w v L) (hs : w.Since w.heap.size w') : KeptIs base w' v L := by
  obtain ⟨Z, h1, h2, h3⟩ := h
  refine ⟨Z, h1, h2.kept (Since.grownNone hs) ?_, fun z hz => ⟨(h3 z hz).nil, (h3 z hz).list.since hs (Nat.le_refl _), (h3 z hz).apart⟩⟩
  cases v.ownBlock with
  | none => exact .inl rfl
  | some k => exact .inr (by simp)

theorem IsInts.grown {w w' : World} {a : Option Addr} {n : Nat} {f : Nat → Int} {row : Option Nat} (h : IsInts w a n f) (hg : w.grownBy w' row) (hne : 0 < n → ∀ x, a = some x → row ≠ some x.block) : IsInts w' a n f := fun hn => by
  obtain ⟨b, off, e, hb, hc⟩ := h hn
  exact ⟨b, off, e, Nat.lt_of_lt_of_le hb hg.size, fun i hi => hg.cell (hc i hi) (fun e2 => hne hn _ e e2.symm)⟩

theorem KeptIs.append {base : Nat} {w w' : World} {v v' : Value} {L : List Sp} {Z : List SpV} {z : SpV} (h1 : Z.map (·.s) = L) (h3 : ∀ z ∈ Z, WatchOk w v z) (hz : WatchOk w v z)
    (hown : w'.ownsRow base 64 5 v' (Z.length + 1) (Z.flatMap SpV.cells ++ z.cells)) (hg : w.grownBy w' v.ownBlock) (hat : v'.ownBlock = v.ownBlock ∨ v'.ownBlock = some w.heap.size) : KeptIs base w' v' (L ++ [z.s]) := by
  refine ⟨Z ++ [z], by simp [h1], by simpa using hown, fun y hy => ?_⟩
  have hy' : WatchOk w v y := by
    rcases List.mem_append.1 hy with h | h
    · exact h3 y h
    · simp at h; subst h; exact hz
  refine ⟨hy'.nil, IsInts.grown hy'.list hg hy'.apart, fun hl x hx => ?_⟩
  rcases hat with e | e
  · rw [e]; exact hy'.apart hl x hx
  · rw [e]
    obtain ⟨b, off, ea, hb, _⟩ := hy'.list hl
    rw [ea] at hx
    obtain rfl := Option.some.inj hx
    intro e2
    injection e2 with e2
    have e3 : w.heap.size = b := e2
    omega

theorem KeptIs.out {base : Nat} {w : World} {v : Value} {L : List Sp} (h : KeptIs base w v L) : ∃ a' c', v = .slice a' L.length c' ∧ (a' = none → L.length = 0 ∧ c' = 0) ∧ L.length ≤ c' ∧ IsSps5 w a' L.length (fun i => L.getD i default) := by
  obtain ⟨Z, h1, h2, h3⟩ := h
  have hl : Z.length = L.length := by rw [← h1]; simp
  have h2' := h2
  rcases h2.2 with ⟨rfl, e⟩ | ⟨g, cap, cur, rfl, hb, hg, hle, hmx, _⟩
  · refine ⟨none, 0, ?_, fun _ => ⟨by omega, rfl⟩, by omega, fun h => absurd h (by omega)⟩
    rw [show L.length = 0 by omega]
  · refine ⟨some ⟨g, 0, none⟩, cap, by rw [hl], (fun h => by cases h), by omega, fun _ => ⟨g, 0, rfl, fun i hi => ?_⟩⟩
    have hi' : i < Z.length := by omega
    have hz := h3 _ (List.getElem_mem hi')
    have es : L.getD i default = Z[i].s := by subst h1; simp [List.getD, hi']
    show IsSp5 _ w g (0 + i * 5) (L.getD i default)
    rw [es, Nat.zero_add]
    have hc : ∀ j, j < 5 → w.cell? ⟨g, i * 5 + j, none⟩ = (Z[i].cells)[j]? := fun j hj => by
      rw [h2'.cellAt (i * 5 + j) (by omega)]
      exact flat_at Z i j hi' hj
    exact ⟨(h2'.lt g rfl).2, hc 0 (by omega), hc 1 (by omega), hc 2 (by omega), hc 3 (by omega), Z[i].wa, Z[i].wc, hc 4 (by omega), hz.nil, fun _ _ _ => trivial, hz.list⟩

/-! ### slices of one's own, nil or not -/
/-- The slice (a, n, cap) is nil, or a row behind base that holds the numbers f and may be written. -/
def OwnSl (base : Nat) (w : World) (a : Option Addr) (n cap : Nat) (f : Nat → Int) : Prop :=
  (a = none ∧ n = 0 ∧ cap = 0) ∨ ∃ g, a = some ⟨g, 0, none⟩ ∧ n ≤ cap ∧ cap ≤ maxLen ∧ base ≤ g ∧ OwnInts w g n f

theorem OwnSl.isInts {base : Nat} {w : World} {a : Option Addr} {n cap : Nat} {f : Nat → Int} (h : OwnSl base w a n cap f) : IsInts w a n f := by
  rcases h with ⟨rfl, rfl, rfl⟩ | ⟨g, rfl, _, _, _, h⟩
  · intro h; omega
  · exact h.isInts

theorem OwnSl.far {base : Nat} {w : World} {a : Option Addr} {n cap : Nat} {f : Nat → Int} (h : OwnSl base w a n cap f) : ∀ x, a = some x → base ≤ x.block := by
  rcases h with ⟨rfl, rfl, rfl⟩ | ⟨g, rfl, _, _, hb, h⟩
  · intro x hx; cases hx
  · intro x hx; cases hx; exact hb

theorem OwnSl.nilZ {base : Nat} {w : World} {a : Option Addr} {n cap : Nat} {f : Nat → Int} (h : OwnSl base w a n cap f) : a = none → n = 0 ∧ cap = 0 := by
  rcases h with ⟨rfl, rfl, rfl⟩ | ⟨g, rfl, _, _, hb, h⟩
  · exact fun _ => ⟨rfl, rfl⟩
  · intro h; cases h

/-- The call returned a slice of one's own that reads as f. -/
def GotSl (base : Nat) (w : World) (n : Nat) (f : Nat → Int) (e : Ending) : Prop := ∃ a cap, e = .returned (.slice a n cap) ∧ OwnSl base w a n cap f

theorem sclone_any (w : World) (a : Option Addr) (n c : Nat) (f : Nat → Int) (hn : n ≤ 1048576) (hz : a = none → n = 0 ∧ c = 0) (h : IsInts w a n f) :
    Calls Try.prog 47 #[.slice a n c] w fun e w' => GotSl w.heap.size w' n f e ∧ w.Since w.heap.size w' := by
  cases a with
  | none =>
    obtain ⟨rfl, rfl⟩ := hz rfl
    exact (sclone_nil w).mono fun e w' ⟨he, hw⟩ => ⟨⟨none, 0, he, .inl ⟨rfl, rfl, rfl⟩⟩, hw ▸ World.Since.refl _ _⟩
  | some a => exact (sclone_some w a n c f hn h).mono fun e w' ⟨⟨g, cap, he, h1, h2, h3, h4⟩, hs⟩ => ⟨⟨_, cap, he, .inr ⟨g, rfl, h1, h2, h3, h4⟩⟩, hs⟩

set_option maxHeartbeats 800000 in
theorem delete_nil (F v : Nat) (R : World → Prop) (p : Int → Bool) (hcall : ∀ args w, (callFunc F args).run Try.prog w = .ok (.enter F args) w) (hT : Tells F v R p) (w : World) (hR : R w) :
    Calls Try.prog 46 #[.slice none 0 0, .func (.func F) #[] #[.pointer (some ⟨v, 0, none⟩)]] w fun e w' => e = .returned (.slice none 0 0) ∧ w = w' := by
  have HI := (show Hid _ from index_any F v R p hcall hT w none 0 0 (fun _ => 0) (by omega) (fun h => absurd h (by omega)) (fun i hi => absurd hi (by omega)) hR)
  clear hcall hT hR
  go_enter Try.func46, Try.ntmps46
  go_wp2_with fail
  refine Calls.mono HI.out ?_
  rintro e w' ⟨hi, rfl⟩
  cases hi with
  | none hN =>
    clear hN
    go_wp2
    go_ret
    exact ⟨rfl, rfl⟩
  | «at» k hk hp hN => omega

theorem delete_sl (F v : Nat) (R : World → Prop) (p : Int → Bool) (hcall : ∀ args w, (callFunc F args).run Try.prog w = .ok (.enter F args) w) (hT : Tells F v R p) (w : World) (B : Nat) (a : Option Addr) (n cap : Nat) (f : Nat → Int) (hn : n ≤ 1048576) (h : OwnSl B w a n cap f) (ho : ∀ i, i < n → Ok64 (f i)) (hR : ∀ w', w.Since B w' → R w') :
    Calls Try.prog 46 #[.slice a n cap, .func (.func F) #[] #[.pointer (some ⟨v, 0, none⟩)]] w fun e w' => GotSl B w' (kp p f n).length (fun i => (kp p f n).getD i 0) e ∧ w.Since B w' := by
  rcases h with ⟨rfl, rfl, rfl⟩ | ⟨g, rfl, h1, h2, h3, h4⟩
  · refine (delete_nil F v R p hcall hT w (hR w (World.Since.refl _ _))).mono fun e w' ⟨he, hw⟩ => ⟨⟨none, 0, ?_, .inl ⟨rfl, ?_, rfl⟩⟩, hw ▸ World.Since.refl _ _⟩
    · exact he
    · rfl
  · refine (delete_any F v R p hcall hT w B g n cap f hn h1 h2 h3 h4 ho hR).mono fun e w' ⟨⟨he, hd⟩, hs⟩ => ⟨⟨_, cap, he, .inr ⟨g, rfl, Nat.le_trans (kp_le p f n) h1, h2, h3, hd⟩⟩, hs⟩
end Go.Proofs.Qxb6600061a
