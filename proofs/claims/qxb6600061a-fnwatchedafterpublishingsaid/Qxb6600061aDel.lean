/-
  slices.Clone, slices.DeleteFunc at []int64 (seat 061a).
-/
import Derived.Test.Qxb6600061aIdx
import Derived.Test.Qxb6600061aPlain
import Derived.Lib.SliceRun
namespace Go.Proofs.Qxb6600061a
open Go.RowKit Go.Maps

/-- n numbers in block b, from its head on, that may be written. -/
structure OwnInts (w : World) (b n : Nat) (f : Nat → Int) : Prop where
  lt : b < w.heap.size
  cell : ∀ i, i < n → w.cell? ⟨b, i, none⟩ = some (.int .i64 (f i))
  free : ∀ i, i < n → w.frozen? ⟨b, i, none⟩ = false

theorem OwnInts.isInts {w : World} {b n : Nat} {f : Nat → Int} (h : OwnInts w b n f) : IsInts w (some ⟨b, 0, none⟩) n f :=
  fun _ => ⟨b, 0, rfl, h.lt, fun i hi => by rw [Nat.zero_add]; exact h.cell i hi⟩

/-- The values of the first n numbers. -/
def vs (f : Nat → Int) (n : Nat) : List Value := (List.range n).map fun i => .int .i64 (f i)
theorem vs_len (f : Nat → Int) (n : Nat) : (vs f n).length = n := by simp [vs]
theorem vs_at {f : Nat → Int} {n j : Nat} {u : Value} (h : (vs f n)[j]? = some u) : j < n ∧ u = .int .i64 (f j) := by
  have hj : j < n := by have := (List.getElem?_eq_some_iff.1 h).1; rwa [vs_len] at this
  refine ⟨hj, ?_⟩
  simp [vs, hj] at h
  exact h.symm
theorem vs_one {f : Nat → Int} {n : Nat} : ∀ u ∈ vs f n, u.oneCell' = true := by
  intro u hu
  simp only [vs, List.mem_map] at hu
  obtain ⟨i, _, rfl⟩ := hu
  rfl

theorem IsInts.news {w : World} {ad : Addr} {n : Nat} {f : Nat → Int} (h : IsInts w (some ad) n f) : ∀ j u, (vs f n)[j]? = some u → w.cell? (ad.add j) = some u := by
  intro j u hu
  obtain ⟨hj, rfl⟩ := vs_at hu
  obtain ⟨b, off, e, _, hc⟩ := h (by omega)
  obtain rfl := Option.some.inj e
  rw [Addr.add_mid]
  exact hc j hj

theorem ownsRow_ints {w : World} {base g cap n : Nat} {f : Nat → Int} (h : w.ownsRow base 2 1 (.slice (some ⟨g, 0, none⟩) n cap) n (vs f n)) : OwnInts w g n f := by
  refine ⟨(h.lt g rfl).2, fun i hi => ?_, fun i _ => h.frozenAt i⟩
  rw [h.cellAt i (by omega)]
  simp [vs, hi]

set_option maxHeartbeats 400000 in
theorem sclone_nil (w : World) : Calls Try.prog 47 #[.slice none 0 0] w fun e w' => e = .returned (.slice none 0 0) ∧ w = w' := by
  have q : ∀ (w : World) (a : Option Addr) (n c : Nat), (binOp .eql 23 (.slice a n c) (.slice none 0 0)).run Try.prog w = .ok (.bool a.isNone) w := fun w a n c => Lib.run_eql_slice_nil w 23 2 a n c 0 0 Try.underlying23
  go_enter Try.func47, Try.ntmps47
  go_wp2
  go_ret
  exact ⟨rfl, rfl⟩

/-- What a copy of n numbers is: a row of one's own, behind w. -/
def Copied (w w' : World) (n : Nat) (f : Nat → Int) (e : Ending) : Prop :=
  ∃ g cap, e = .returned (.slice (some ⟨g, 0, none⟩) n cap) ∧ n ≤ cap ∧ cap ≤ maxLen ∧ w.heap.size ≤ g ∧ OwnInts w' g n f

theorem Copied.of_row {w w' : World} {n : Nat} {f : Nat → Int} {v : Value} (h : w'.ownsRow w.heap.size 2 1 v n (vs f n)) (hne : ¬ v = .slice none 0 0) : Copied w w' n f (.returned v) := by
  have h' := h
  rcases h.2 with ⟨e, _⟩ | ⟨g, cap, cur, rfl, hb, _, hle, hmx, _⟩
  · exact absurd e hne
  · exact ⟨g, cap, rfl, hle, hmx, hb, ownsRow_ints h'⟩

set_option maxHeartbeats 800000 in
theorem sclone_some (w : World) (a : Addr) (n c : Nat) (f : Nat → Int) (hn : n ≤ 1048576) (h : IsInts w (some a) n f) :
    Calls Try.prog 47 #[.slice (some a) n c] w fun e w' => Copied w w' n f e ∧ w.Since w.heap.size w' := by
  have q : ∀ (w : World) (a : Option Addr) (n c : Nat), (binOp .eql 23 (.slice a n c) (.slice none 0 0)).run Try.prog w = .ok (.bool a.isNone) w := fun w a n c => Lib.run_eql_slice_nil w 23 2 a n c 0 0 Try.underlying23
  obtain ⟨i0, hi, hzz⟩ := Option.map_eq_some_iff.1 Try.info2
  simp only [Prod.mk.injEq] at hzz
  obtain ⟨hz0, hz1, hz2⟩ := hzz
  have hal := (World.Since.refl w.heap.size w).alloc (Nat.le_refl _) (.cells #[] 2)
  have hnews := (show Hid _ from IsInts.news (IsInts.since h hal (Nat.le_refl _)))
  have hown := (show Hid _ from World.ownsRow_made (base := w.heap.size) (e := 2) (size := 1) w #[] 0 (Nat.le_refl _) (by decide) (by simp))
  clear h
  go_enter Try.func47, Try.ntmps47
  go_wp2_with (at_builtin; refine wpList_append_own _ rfl _ _ 23 rfl w.heap.size 2 i0 (.int .i64 0) 1 8 Try.underlying23 hi hz0 hz1 hz2 rfl (by decide) _ 0 [] rfl hown.out a n c (vs f n) rfl (by rw [vs_len, Nat.mul_one]) hnews.out vs_one (by unfold maxLen; omega) (by omega) (by simp) ?_)
  intro v' w1 hown1 hgrow hnil
  have hs := hal.grown hgrow (by simp) (fun k hk => by simp [Value.ownBlock] at hk; omega)
  have hC : Copied w w1 n f (.returned v') := Copied.of_row (by simpa using hown1) (fun e => by simp [e] at hnil)
  clear hown1 hgrow hnil hown hnews q hal
  go_wp2
  go_ret
  exact ⟨hC, hs⟩

/-! ### DeleteFunc -/
theorem ls_succ (f : Nat → Int) (k : Nat) : ls f (k + 1) = ls f k ++ [f k] := by simp [ls, List.range_succ]

/-- Those of the first k numbers that stay. -/
def kp (p : Int → Bool) (f : Nat → Int) (k : Nat) : List Int := (ls f k).filter (fun x => !p x)
theorem kp_hit {p : Int → Bool} {f : Nat → Int} {k : Nat} (h : p (f k) = true) : kp p f (k + 1) = kp p f k := by simp [kp, ls_succ, h]
theorem kp_miss {p : Int → Bool} {f : Nat → Int} {k : Nat} (h : p (f k) = false) : kp p f (k + 1) = kp p f k ++ [f k] := by simp [kp, ls_succ, h]
theorem kp_le (p : Int → Bool) (f : Nat → Int) (k : Nat) : (kp p f k).length ≤ k := Nat.le_trans (List.length_filter_le _ _) (by rw [ls_len]; exact Nat.le_refl _)
theorem kp_all {p : Int → Bool} {f : Nat → Int} {n : Nat} (h : ∀ j, j < n → p (f j) = false) : kp p f n = ls f n := by
  unfold kp
  rw [List.filter_eq_self]
  intro x hx
  obtain ⟨i, hi, rfl⟩ := mem_ls.1 hx
  rw [h i hi]; rfl
theorem ls_get {f : Nat → Int} {n i : Nat} (hi : i < n) : (ls f n).getD i 0 = f i := by simp [ls, List.getD, hi]

theorem OwnInts.congr {w : World} {b n : Nat} {f g : Nat → Int} (h : OwnInts w b n f) (e : ∀ i, i < n → f i = g i) : OwnInts w b n g :=
  ⟨h.lt, fun i hi => by rw [h.cell i hi, e i hi], h.free⟩
theorem OwnInts.take {w : World} {b n m : Nat} {f : Nat → Int} (h : OwnInts w b n f) (hm : m ≤ n) : OwnInts w b m f :=
  ⟨h.lt, fun i hi => h.cell i (by omega), fun i hi => h.free i (by omega)⟩

theorem OwnInts.set {w : World} {b n : Nat} {f : Nat → Int} (h : OwnInts w b n f) {i : Nat} (hi : i < n) (x : Int) : OwnInts (w.setCell ⟨b, i, none⟩ (.int .i64 x)) b n (fun j => if j = i then x else f j) := by
  refine ⟨by simpa [World.setCell] using h.lt, fun j hj => ?_, fun j hj => ?_⟩
  · by_cases e : j = i
    · subst e
      rw [World.cell?_setCell_same (h := h.cell j hj)]
      simp
    · rw [World.cell?_setCell_other (h := by intro e2; injection e2 with _ e3; exact e e3.symm), h.cell j hj]
      simp [e]
  · have := World.frozen?_setCells b [.int .i64 x] i w ⟨b, j, none⟩
    exact this.trans (h.free j hj)

/-- Block b's cells in the midst of DeleteFunc: the first i are those that stay of the first j; from j on all is as it was. -/
def Mid (p : Int → Bool) (f : Nat → Int) (n j : Nat) (w : World) (b : Nat) : Prop :=
  ∃ h : Nat → Int, OwnInts w b n h ∧ (∀ t, t < (kp p f j).length → h t = (kp p f j).getD t 0) ∧ ∀ t, j ≤ t → h t = f t

theorem Mid.start {p : Int → Bool} {f : Nat → Int} {n k : Nat} {w : World} {b : Nat} (h : OwnInts w b n f) (hN : ∀ j, j < k → p (f j) = false) (hk : p (f k) = true) : Mid p f n (k + 1) w b := by
  refine ⟨f, h, fun t ht => ?_, fun t _ => rfl⟩
  rw [kp_hit hk, kp_all hN] at ht ⊢
  rw [ls_len] at ht
  rw [ls_get ht]

theorem Mid.hit {p : Int → Bool} {f : Nat → Int} {n j : Nat} {w : World} {b : Nat} (h : Mid p f n j w b) (hp : p (f j) = true) : Mid p f n (j + 1) w b := by
  obtain ⟨h0, h1, h2, h3⟩ := h
  exact ⟨h0, h1, by rw [kp_hit hp]; exact h2, fun t ht => h3 t (by omega)⟩

theorem Mid.miss {p : Int → Bool} {f : Nat → Int} {n j : Nat} {w : World} {b : Nat} (h : Mid p f n j w b) (hp : p (f j) = false) (hj : j < n) (hi : (kp p f j).length < j) : Mid p f n (j + 1) (w.setCell ⟨b, (kp p f j).length, none⟩ (.int .i64 (f j))) b := by
  obtain ⟨h0, h1, h2, h3⟩ := h
  refine ⟨_, h1.set (i := (kp p f j).length) (by omega) (f j), fun t ht => ?_, fun t ht => ?_⟩
  · rw [kp_miss hp] at ht ⊢
    simp at ht
    by_cases e : t = (kp p f j).length
    · subst e; simp
    · rw [if_neg e, h2 t (by omega)]
      simp [List.getD, List.getElem?_append_left (show t < (kp p f j).length by omega)]
  · rw [if_neg (by omega)]
    exact h3 t (by omega)

theorem Mid.done {p : Int → Bool} {f : Nat → Int} {n : Nat} {w : World} {b : Nat} (h : Mid p f n n w b) (vs : List Value) :
    OwnInts (w.setCells b (kp p f n).length vs) b (kp p f n).length (fun i => (kp p f n).getD i 0) := by
  obtain ⟨h0, h1, h2, h3⟩ := h
  refine ⟨by rw [size_setCells]; exact h1.lt, fun i hi => ?_, fun i hi => ?_⟩
  · rw [cell_apart w b _ vs (fun _ => .inl hi), h1.cell i (Nat.lt_of_lt_of_le hi (kp_le p f n)), h2 i hi]
  · rw [World.frozen?_setCells]; exact h1.free i (Nat.lt_of_lt_of_le hi (kp_le p f n))

theorem Mid.cells {p : Int → Bool} {f : Nat → Int} {n j : Nat} {w : World} {b : Nat} (h : Mid p f n j w b) : ∃ h : Nat → Int, OwnInts w b n h ∧ ∀ t, j ≤ t → h t = f t := by
  obtain ⟨h0, h1, _, h3⟩ := h
  exact ⟨h0, h1, h3⟩

/-- What DeleteFunc answers. -/
def Deleted (w' : World) (g cap : Nat) (l : List Int) (e : Ending) : Prop :=
  e = .returned (.slice (some ⟨g, 0, none⟩) l.length cap) ∧ OwnInts w' g l.length (fun i => l.getD i 0)

theorem zero2 (w : World) : (zeroValue 2).run Try.prog w = .ok (.int .i64 0) w := by kernel_rfl

theorem clear_run {p : Int → Bool} {f : Nat → Int} {n j c' : Nat} {w : World} {b : Nat} (h : Mid p f n j w b) {i : Nat} (hi : i < n) :
    ∀ ty, (Builtin.clear_ #[23] ty #[.slice (some ⟨b, i, none⟩) (n - i) c']).run Try.prog w = .ok (.tuple #[]) (w.setCells b i (List.replicate (n - i) (.int .i64 0))) := by
  obtain ⟨h0, h1, _⟩ := h.cells
  exact fun ty => Lib.run_clear_slice w 23 2 ty (.int .i64 0) Try.underlying23 zero2 rfl rfl b i (n - i) c' (by omega) (fun t ht => by rw [h1.cell (i + t) (by omega)]; rfl) (fun t ht => h1.free (i + t) (by omega))

set_option maxHeartbeats 1600000 in
theorem delete_any (F v : Nat) (R : World → Prop) (p : Int → Bool) (hcall : ∀ args w, (callFunc F args).run Try.prog w = .ok (.enter F args) w) (hT : Tells F v R p) (w : World) (B g n cap : Nat) (f : Nat → Int) (hn : n ≤ 1048576) (hnc : n ≤ cap) (hcm : cap ≤ maxLen) (hB : B ≤ g) (h : OwnInts w g n f) (ho : ∀ i, i < n → Ok64 (f i)) (hR : ∀ w', w.Since B w' → R w') :
    Calls Try.prog 46 #[.slice (some ⟨g, 0, none⟩) n cap, .func (.func F) #[] #[.pointer (some ⟨v, 0, none⟩)]] w fun e w' => Deleted w' g cap (kp p f n) e ∧ w.Since B w' := by
  unfold maxLen at hcm
  have HI := (show Hid _ from index_any F v R p hcall hT w (some ⟨g, 0, none⟩) n cap f hn h.isInts ho (hR w (World.Since.refl _ _)))
  have HT := (show Hid _ from hT)
  have HO := (show Hid _ from ho)
  have HR := (show Hid _ from hR)
  have HH := (show Hid _ from h)
  clear hT ho hR h
  go_enter Try.func46, Try.ntmps46
  go_wp2_with fail
  refine Calls.mono HI.out ?_
  rintro e w' ⟨hi, rfl⟩
  cases hi with
  | none hN =>
    have HN := (show Hid _ from hN)
    clear hN
    go_wp2
    go_ret
    refine ⟨⟨?_, ?_⟩, World.Since.refl _ _⟩
    · rw [kp_all HN.out, ls_len]; rfl
    · rw [kp_all HN.out, ls_len]; exact HH.out.congr (fun i hi => (ls_get hi).symm)
  | «at» k hk hp hN =>
    have HM := (show Hid _ from Mid.start HH.out hN hp)
    have HL : Hid ((kp p f (k + 1)).length = k) := by rw [kp_hit hp, kp_all hN]; exact ls_len f k
    have hz : ((k : Int) == -1) = false := by simp
    clear hN hp HI
    go_wp2
    go_loopg [5, 6] (n - (k + 1)) (fun gg s5 s6 wr => ∃ j : Nat, j ≤ n ∧ gg = n - j ∧ s6 = .int .i64 j ∧ s5 = .int .i64 ((kp p f j).length : Int) ∧ Hid ((kp p f j).length < j) ∧ Hid (Mid p f n j wr g) ∧ w.Since B wr)
    case atStart => exact ⟨k + 1, by omega, rfl, by go_num, by rw [HL.out], (show Hid _ from by show _ < _; rw [HL.out]; omega), HM, World.Since.refl _ _⟩
    case round =>
      obtain ⟨j, hj, rfl, rfl, rfl, hlj, hM, hS⟩ := hrel
      by_cases hlt : j < n
      · obtain ⟨h0, h1, h3⟩ := hM.out.cells
        have c0 : wr.cell? ⟨g, j, none⟩ = some (.int .i64 (f j)) := by rw [h1.cell j hlt, h3 j (Nat.le_refl _)]
        have hz : (j : Int) < (n : Int) := by omega
        have hlj' := hlj.out
        obtain ⟨i, hi⟩ : ∃ i, i = (kp p f j).length := ⟨_, rfl⟩
        have HI : Hid (i = (kp p f j).length) := hi
        rw [← hi] at hlj' ⊢
        have d0 : wr.cell? ⟨g, i, none⟩ = some (.int .i64 (h0 i)) := h1.cell i (by omega)
        have d1 : wr.frozen? ⟨g, i, none⟩ = false := h1.free i (by omega)
        have hzi : (i : Int) < (n : Int) := by omega
        clear h1 h3 hi
        cases e : p (f j)
        · have HE : Hid (p (f j) = false) := e
          clear e
          go_wp2_with fail
          refine (HT.out _ (f j) (HO.out j hlt) (HR.out _ hS)).mono ?_
          rw [HE.out]
          rintro e w' ⟨rfl, rfl⟩
          go_wp2
          go_roundg (n - (j + 1))
          case measure => go_light; omega
          case rel =>
            go_light
            refine ⟨j + 1, by omega, rfl, by go_num, by rw [kp_miss HE.out]; simp [← HI.out], (show Hid _ from by show _ < _; rw [kp_miss HE.out]; simp [← HI.out]; omega), ?_, hS.setCell hB _⟩
            have := hM.out.miss HE.out hlt hlj.out
            rw [← HI.out] at this
            exact this
        · have HE : Hid (p (f j) = true) := e
          clear e
          go_wp2_with fail
          refine (HT.out _ (f j) (HO.out j hlt) (HR.out _ hS)).mono ?_
          rw [HE.out]
          rintro e w' ⟨rfl, rfl⟩
          go_wp2
          go_roundg (n - (j + 1))
          case measure => go_light; omega
          case rel =>
            go_light
            exact ⟨j + 1, by omega, rfl, by go_num, by rw [kp_hit HE.out, ← HI.out], (show Hid _ from by show _ < _; rw [kp_hit HE.out, ← HI.out]; omega), hM.out.hit HE.out, hS⟩
      · obtain rfl : j = n := by omega
        have hlj' := hlj.out
        have hdone := (show Hid _ from hM.out.done (List.replicate (j - (kp p f j).length) (.int .i64 0)))
        have hcl := clear_run (c' := cap - (kp p f j).length) hM.out hlj'
        obtain ⟨i, hi⟩ : ∃ i, i = (kp p f j).length := ⟨_, rfl⟩
        have HI : Hid (i = (kp p f j).length) := hi
        rw [← hi] at hlj' hcl ⊢
        have hzi : (i : Int) ≤ (j : Int) := by omega
        have hzc : (j : Int) ≤ (cap : Int) := by omega
        have hzc2 : (i : Int) ≤ (cap : Int) := by omega
        clear hi
        go_wp2
        go_ret
        rw [← HI.out] at hdone
        refine ⟨⟨?_, ?_⟩, Since.setCells hB _ _ _ hS⟩
        · rw [← HI.out]; rfl
        · rw [← HI.out]; exact hdone
end Go.Proofs.Qxb6600061a
