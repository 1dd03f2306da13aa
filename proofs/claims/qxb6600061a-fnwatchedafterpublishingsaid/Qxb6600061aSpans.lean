/-
  SPANS IN MEMORY (seat 061a): a slice of Span (4 cells), of ZZSpan or heldSpan (5 cells); rows under construction.
-/
import Derived.Test.Qxb6600061aBase
import Derived.Deep.MidRow
namespace Go.Proofs.Qxb6600061a
open Go.RowKit

/-- A span as plain data. -/
structure Sp where
  lo : Int
  hi : Int
  pend : Int
  wl : List Int
  deriving Inhabited

/-- The slice at 'a' reads as the list l. -/
def IsList (w : World) (a : Option Addr) (l : List Int) : Prop := IsInts w a l.length (fun i => l.getD i 0)

theorem IsList.since {w w' : World} {a : Option Addr} {l : List Int} {B : Nat} (h : IsList w a l) (hs : w.Since B w') (hB : w.heap.size ≤ B) : IsList w' a l := IsInts.since h hs hB

theorem ls_getD (l : List Int) : ls (fun i => l.getD i 0) l.length = l := by
  unfold ls
  apply List.ext_getElem?
  intro i
  by_cases hi : i < l.length
  · simp [hi, List.getD]
  · simp [hi]

/-- A watch: the slice value at an address, and what it reads as; nb: what is said of the block that it leads into. -/
def IsWatch (nb : Nat → Prop) (w : World) (b o : Nat) (l : List Int) : Prop :=
  ∃ wa wc, w.cell? ⟨b, o, none⟩ = some (.slice wa l.length wc) ∧ (wa = none → l = [] ∧ wc = 0) ∧ (0 < l.length → ∀ x, wa = some x → nb x.block) ∧ IsList w wa l

/-- The span s in four cells from o on. -/
structure IsSp4 (nb : Nat → Prop) (w : World) (b o : Nat) (s : Sp) : Prop where
  lt : b < w.heap.size
  c0 : w.cell? ⟨b, o, none⟩ = some (.int .i64 s.lo)
  c1 : w.cell? ⟨b, o + 1, none⟩ = some (.int .i64 s.hi)
  c2 : w.cell? ⟨b, o + 2, none⟩ = some (.int .i64 s.pend)
  c3 : IsWatch nb w b (o + 3) s.wl

/-- The span s in five cells from o on (keys: nil). -/
structure IsSp5 (nb : Nat → Prop) (w : World) (b o : Nat) (s : Sp) : Prop where
  lt : b < w.heap.size
  c0 : w.cell? ⟨b, o, none⟩ = some (.int .i64 s.lo)
  c1 : w.cell? ⟨b, o + 1, none⟩ = some (.int .i64 s.hi)
  c2 : w.cell? ⟨b, o + 2, none⟩ = some (.map none)
  c3 : w.cell? ⟨b, o + 3, none⟩ = some (.int .i64 s.pend)
  c4 : IsWatch nb w b (o + 4) s.wl

variable {nb nb' : Nat → Prop} {w w' : World} {b o n B : Nat} {l : List Int} {s : Sp} {a : Option Addr} {S : Nat → Sp}

theorem IsWatch.mono (h : IsWatch nb w b o l) (hn : ∀ x, nb x → nb' x) : IsWatch nb' w b o l := by
  obtain ⟨wa, wc, h1, h2, h3, h4⟩ := h
  exact ⟨wa, wc, h1, h2, fun hl x hx => hn _ (h3 hl x hx), h4⟩
theorem IsSp4.mono (h : IsSp4 nb w b o s) (hn : ∀ x, nb x → nb' x) : IsSp4 nb' w b o s := ⟨h.lt, h.c0, h.c1, h.c2, h.c3.mono hn⟩
theorem IsSp5.mono (h : IsSp5 nb w b o s) (hn : ∀ x, nb x → nb' x) : IsSp5 nb' w b o s := ⟨h.lt, h.c0, h.c1, h.c2, h.c3, h.c4.mono hn⟩

theorem IsWatch.below (h : IsWatch nb w b o l) : IsWatch (· < w.heap.size) w b o l := by
  obtain ⟨wa, wc, h1, h2, h3, h4⟩ := h
  refine ⟨wa, wc, h1, h2, fun hl x hx => ?_, h4⟩
  obtain ⟨b', off, e, hb, _⟩ := h4 hl
  subst e
  obtain rfl := Option.some.inj hx
  exact hb
theorem IsSp4.below (h : IsSp4 nb w b o s) : IsSp4 (· < w.heap.size) w b o s := ⟨h.lt, h.c0, h.c1, h.c2, h.c3.below⟩
theorem IsSp5.below (h : IsSp5 nb w b o s) : IsSp5 (· < w.heap.size) w b o s := ⟨h.lt, h.c0, h.c1, h.c2, h.c3, h.c4.below⟩

theorem IsWatch.since (h : IsWatch nb w b o l) (hs : w.Since B w') (hB : w.heap.size ≤ B) (hb : b < w.heap.size) : IsWatch nb w' b o l := by
  obtain ⟨wa, wc, h1, h2, h3, h4⟩ := h
  exact ⟨wa, wc, (hs.cell (a := ⟨b, o, none⟩) (Nat.lt_of_lt_of_le hb hB)).trans h1, h2, h3, h4.since hs hB⟩

theorem IsSp4.since (h : IsSp4 nb w b o s) (hs : w.Since B w') (hB : w.heap.size ≤ B) : IsSp4 nb w' b o s := by
  have hb := Nat.lt_of_lt_of_le h.lt hB
  exact ⟨Nat.lt_of_lt_of_le h.lt hs.size, (hs.cell (a := ⟨b, o, none⟩) hb).trans h.c0, (hs.cell (a := ⟨b, o + 1, none⟩) hb).trans h.c1, (hs.cell (a := ⟨b, o + 2, none⟩) hb).trans h.c2, h.c3.since hs hB h.lt⟩

theorem IsSp5.since (h : IsSp5 nb w b o s) (hs : w.Since B w') (hB : w.heap.size ≤ B) : IsSp5 nb w' b o s := by
  have hb := Nat.lt_of_lt_of_le h.lt hB
  exact ⟨Nat.lt_of_lt_of_le h.lt hs.size, (hs.cell (a := ⟨b, o, none⟩) hb).trans h.c0, (hs.cell (a := ⟨b, o + 1, none⟩) hb).trans h.c1, (hs.cell (a := ⟨b, o + 2, none⟩) hb).trans h.c2, (hs.cell (a := ⟨b, o + 3, none⟩) hb).trans h.c3, h.c4.since hs hB h.lt⟩

/-- A slice of n spans, four cells each. -/
def IsSps4 (w : World) (a : Option Addr) (n : Nat) (S : Nat → Sp) : Prop :=
  0 < n → ∃ b off, a = some ⟨b, off, none⟩ ∧ ∀ i, i < n → IsSp4 (fun _ => True) w b (off + i * 4) (S i)
/-- A slice of n spans, five cells each. -/
def IsSps5 (w : World) (a : Option Addr) (n : Nat) (S : Nat → Sp) : Prop :=
  0 < n → ∃ b off, a = some ⟨b, off, none⟩ ∧ ∀ i, i < n → IsSp5 (fun _ => True) w b (off + i * 5) (S i)

theorem IsSps4.since (h : IsSps4 w a n S) (hs : w.Since B w') (hB : w.heap.size ≤ B) : IsSps4 w' a n S := fun hn => by
  obtain ⟨b, off, e, hc⟩ := h hn
  exact ⟨b, off, e, fun i hi => (hc i hi).since hs hB⟩
theorem IsSps5.since (h : IsSps5 w a n S) (hs : w.Since B w') (hB : w.heap.size ≤ B) : IsSps5 w' a n S := fun hn => by
  obtain ⟨b, off, e, hc⟩ := h hn
  exact ⟨b, off, e, fun i hi => (hc i hi).since hs hB⟩

theorem cell_apart (w : World) (B o' : Nat) (vs : List Value) {b o : Nat} (h : b = B → o < o' ∨ o' + vs.length ≤ o) : (w.setCells B o' vs).cell? ⟨b, o, none⟩ = w.cell? ⟨b, o, none⟩ :=
  World.cell?_setCells_out B vs o' w ⟨b, o, none⟩ (fun e _ => h e)

theorem size_setCells (b : Nat) : ∀ (vs : List Value) (o : Nat) (w : World), (w.setCells b o vs).heap.size = w.heap.size
  | [], _, _ => rfl
  | v :: r, o, w => by rw [World.setCells, size_setCells b r (o + 1)]; simp [World.setCell]

theorem IsInts.setCells {f : Nat → Int} (h : IsInts w a n f) (hne : 0 < n → ∀ x, a = some x → x.block ≠ B) (o' : Nat) (vs : List Value) : IsInts (w.setCells B o' vs) a n f := fun hn => by
  obtain ⟨b, off, e, hb, hc⟩ := h hn
  exact ⟨b, off, e, by rw [size_setCells]; exact hb, fun i hi => (cell_apart w B o' vs (fun e2 => absurd e2 (hne hn _ e))).trans (hc i hi)⟩

theorem IsWatch.apart (h : IsWatch (· ≠ B) w b o l) (o' : Nat) (vs : List Value) (ho : b = B → o < o' ∨ o' + vs.length ≤ o) : IsWatch (· ≠ B) (w.setCells B o' vs) b o l := by
  obtain ⟨wa, wc, h1, h2, h3, h4⟩ := h
  exact ⟨wa, wc, (cell_apart w B o' vs ho).trans h1, h2, h3, IsInts.setCells h4 h3 o' vs⟩

theorem IsSp4.apart (h : IsSp4 (· ≠ B) w b o s) (o' : Nat) (vs : List Value) (ho : b = B → o + 4 ≤ o' ∨ o' + vs.length ≤ o) : IsSp4 (· ≠ B) (w.setCells B o' vs) b o s :=
  ⟨by rw [size_setCells]; exact h.lt, (cell_apart w B o' vs (fun e => by have := ho e; omega)).trans h.c0, (cell_apart w B o' vs (fun e => by have := ho e; omega)).trans h.c1,
    (cell_apart w B o' vs (fun e => by have := ho e; omega)).trans h.c2, h.c3.apart o' vs (fun e => by have := ho e; omega)⟩

theorem IsSp5.apart (h : IsSp5 (· ≠ B) w b o s) (o' : Nat) (vs : List Value) (ho : b = B → o + 5 ≤ o' ∨ o' + vs.length ≤ o) : IsSp5 (· ≠ B) (w.setCells B o' vs) b o s :=
  ⟨by rw [size_setCells]; exact h.lt, (cell_apart w B o' vs (fun e => by have := ho e; omega)).trans h.c0, (cell_apart w B o' vs (fun e => by have := ho e; omega)).trans h.c1,
    (cell_apart w B o' vs (fun e => by have := ho e; omega)).trans h.c2, (cell_apart w B o' vs (fun e => by have := ho e; omega)).trans h.c3, h.c4.apart o' vs (fun e => by have := ho e; omega)⟩

/-- n cells of block b from 0 on are there and may be written. -/
def Room (w : World) (b n : Nat) : Prop := b < w.heap.size ∧ ∀ j, j < n → (w.cell? ⟨b, j, none⟩).isSome = true ∧ w.frozen? ⟨b, j, none⟩ = false

theorem Room.there {w : World} {b n : Nat} (h : Room w b n) {o m : Nat} (hm : o + m ≤ n) : w.there b o m := fun j hj => h.2 (o + j) (by omega)

theorem Since.setCells {B : Nat} {w : World} {b : Nat} (hb : B ≤ b) : ∀ (vs : List Value) (o : Nat) (w' : World), w.Since B w' → w.Since B (w'.setCells b o vs)
  | [], _, _, h => h
  | v :: r, o, w', h => by rw [World.setCells]; exact Since.setCells hb r (o + 1) _ (h.setCell hb v)

theorem Room.setCells {w : World} {b n : Nat} (h : Room w b n) (b' o : Nat) (vs : List Value) : Room (w.setCells b' o vs) b n :=
  ⟨by rw [size_setCells]; exact h.1, fun j hj => ⟨World.isSome_setCells b' vs o w _ (h.2 j hj).1, by rw [World.frozen?_setCells]; exact (h.2 j hj).2⟩⟩

theorem Room.since {w w' : World} {b n : Nat} {B : Nat} (h : Room w b n) (hs : w.Since B w') (hB : b < B) : Room w' b n :=
  ⟨Nat.lt_of_lt_of_le h.1 hs.size, fun j hj => ⟨by rw [hs.cell (a := ⟨b, j, none⟩) hB]; exact (h.2 j hj).1, by rw [hs.frozen (a := ⟨b, j, none⟩) hB]; exact (h.2 j hj).2⟩⟩

theorem stored_at (w : World) (b o : Nat) (vs : List Value) (ht : w.there b o vs.length) (j : Nat) (hj : j < vs.length) : (w.setCells b o vs).cell? ⟨b, o + j, none⟩ = some vs[j] :=
  World.cell?_setCells_in b vs o w (fun j hj => (ht j hj).1) j hj

/-- A span stored into a row of one's own. -/
theorem IsSp4.stored {wa : Option Addr} {wc : Nat} (hb : b < w.heap.size) (ht : w.there b o 4) (hz : wa = none → s.wl = [] ∧ wc = 0) (hne : 0 < s.wl.length → ∀ x, wa = some x → x.block ≠ b) (hl : IsList w wa s.wl) :
    IsSp4 (· ≠ b) (w.setCells b o [.int .i64 s.lo, .int .i64 s.hi, .int .i64 s.pend, .slice wa s.wl.length wc]) b o s :=
  ⟨by rw [size_setCells]; exact hb, stored_at w b o [.int .i64 s.lo, .int .i64 s.hi, .int .i64 s.pend, .slice wa s.wl.length wc] ht 0 (by simp), stored_at w b o [.int .i64 s.lo, .int .i64 s.hi, .int .i64 s.pend, .slice wa s.wl.length wc] ht 1 (by simp), stored_at w b o [.int .i64 s.lo, .int .i64 s.hi, .int .i64 s.pend, .slice wa s.wl.length wc] ht 2 (by simp),
    ⟨wa, wc, stored_at w b o [.int .i64 s.lo, .int .i64 s.hi, .int .i64 s.pend, .slice wa s.wl.length wc] ht 3 (by simp), hz, hne, IsInts.setCells hl hne o _⟩⟩

theorem IsSp5.stored {wa : Option Addr} {wc : Nat} (hb : b < w.heap.size) (ht : w.there b o 5) (hz : wa = none → s.wl = [] ∧ wc = 0) (hne : 0 < s.wl.length → ∀ x, wa = some x → x.block ≠ b) (hl : IsList w wa s.wl) :
    IsSp5 (· ≠ b) (w.setCells b o [.int .i64 s.lo, .int .i64 s.hi, .map none, .int .i64 s.pend, .slice wa s.wl.length wc]) b o s :=
  ⟨by rw [size_setCells]; exact hb, stored_at w b o [.int .i64 s.lo, .int .i64 s.hi, .map none, .int .i64 s.pend, .slice wa s.wl.length wc] ht 0 (by simp), stored_at w b o [.int .i64 s.lo, .int .i64 s.hi, .map none, .int .i64 s.pend, .slice wa s.wl.length wc] ht 1 (by simp), stored_at w b o [.int .i64 s.lo, .int .i64 s.hi, .map none, .int .i64 s.pend, .slice wa s.wl.length wc] ht 2 (by simp), stored_at w b o [.int .i64 s.lo, .int .i64 s.hi, .map none, .int .i64 s.pend, .slice wa s.wl.length wc] ht 3 (by simp),
    ⟨wa, wc, stored_at w b o [.int .i64 s.lo, .int .i64 s.hi, .map none, .int .i64 s.pend, .slice wa s.wl.length wc] ht 4 (by simp), hz, hne, IsInts.setCells hl hne o _⟩⟩

/-- A new block of n cells. -/
theorem Room.made (w : World) (c : Array Value) (t : TypeId) : Room (w.alloc (.cells c t)) w.heap.size c.size := by
  refine ⟨by simp, fun j hj => ?_⟩
  have h0 := heap_alloc_new w (.cells c t)
  exact ⟨by unfold World.cell?; rw [h0]; simp [hj], by unfold World.frozen?; rw [h0]; simp⟩

/-- 'make([]T, n)', T of any number of cells. -/
theorem run_make_rows {P : Program} (t e : TypeId) (z : Value) (sz bytes : Nat) (ht : P.underlying t = some (.slice e)) (hinfo : (P.info? e).map (fun i => (i.zero, i.size, i.bytes)) = some (some z, sz, bytes))
    (kl kc : IntKind) (n : Nat) (hbytes : bytes * n ≤ 281474976710656) (h63 : n ≤ 9223372036854775807) (w : World) :
    (Instr.makeSlice t (.int kl (n : Int)) (.int kc (n : Int))).run P w = .ok (.slice (some ⟨w.heap.size, 0, none⟩) n n) (w.alloc (.cells (madeCells z.cells (n * sz)) e)) := by
  obtain ⟨i, hi, hzz⟩ := Option.map_eq_some_iff.1 hinfo
  simp only [Prod.mk.injEq] at hzz
  obtain ⟨hz, hs, hb⟩ := hzz
  have hb' : (i.bytes : Int) * (n : Int) ≤ 281474976710656 := by
    have h : ((i.bytes * n : Nat) : Int) ≤ 281474976710656 := by rw [hb]; omega
    rwa [Int.natCast_mul] at h
  have hr := run_make (P := P) w t e i z ht hi hz kl kc n n (by omega) (Int.le_refl _) hb' (by omega)
  simp only [Int.toNat_natCast, hs] at hr
  exact hr

theorem Room.drew (h : Room w b n) : Room w.drew b n := h
theorem IsSp4.drew (h : IsSp4 nb w b o s) : IsSp4 nb w.drew b o s := ⟨h.lt, h.c0, h.c1, h.c2, h.c3⟩
theorem IsSp5.drew (h : IsSp5 nb w b o s) : IsSp5 nb w.drew b o s := ⟨h.lt, h.c0, h.c1, h.c2, h.c3, h.c4⟩

/-- A row of n spans (4 cells each) under construction at the end of w's heap; the first k are laid. -/
structure Made4 (w wr : World) (n k : Nat) (S : Nat → Sp) : Prop where
  since : w.Since w.heap.size wr
  room : Room wr w.heap.size (n * 4)
  laid : ∀ j, j < k → IsSp4 (· ≠ w.heap.size) wr w.heap.size (j * 4) (S j)

/-- The cells of the next place. -/
theorem Made4.next {w wr : World} {n k : Nat} {S : Nat → Sp} (h : Made4 w wr n k S) (hk : k < n) : wr.there w.heap.size (k * 4) 4 := h.room.there (o := k * 4) (m := 4) (by have := Nat.mul_le_mul_right 4 (Nat.succ_le_of_lt hk); omega)

theorem Made4.step0 {w wr : World} {n k : Nat} {S : Nat → Sp} {wa : Option Addr} {wc : Nat} (h : Made4 w wr n k S) (hk : k < n) (hz : wa = none → (S k).wl = [] ∧ wc = 0) (hne : 0 < (S k).wl.length → ∀ x, wa = some x → x.block ≠ w.heap.size) (hl : IsList wr wa (S k).wl) :
    Made4 w (wr.setCells w.heap.size (k * 4) [.int .i64 (S k).lo, .int .i64 (S k).hi, .int .i64 (S k).pend, .slice wa (S k).wl.length wc]) n (k + 1) S :=
  ⟨(Since.setCells (Nat.le_refl w.heap.size) _ (k * 4) wr h.since), h.room.setCells _ _ _, fun j hj => by
    by_cases e : j = k
    · subst e
      exact IsSp4.stored h.room.1 (h.next hk) hz hne hl
    · exact (h.laid j (by omega)).apart _ _ (fun _ => .inl (by omega))⟩

theorem Made4.step {w wr : World} {n k : Nat} {S : Nat → Sp} {wa : Option Addr} {wc : Nat} (h : Made4 w wr n k S) (hk : k < n) (hz : wa = none → (S k).wl = [] ∧ wc = 0) (hne : 0 < (S k).wl.length → ∀ x, wa = some x → x.block ≠ w.heap.size) (hl : IsList wr wa (S k).wl) :
    Made4 w (wr.setCells w.heap.size (k * 4) [.int .i64 (S k).lo, .int .i64 (S k).hi, .int .i64 (S k).pend, .slice wa (S k).wl.length wc]).drew n (k + 1) S :=
  let h0 := h.step0 hk hz hne hl
  ⟨h0.since.drew, h0.room.drew, fun j hj => (h0.laid j hj).drew⟩

theorem Made4.all {w wr : World} {n k : Nat} {S : Nat → Sp} (h : Made4 w wr n k S) (hk : k = n) : IsSps4 wr (some ⟨w.heap.size, 0, none⟩) n S :=
  fun _ => ⟨_, _, rfl, fun i hi => by rw [Nat.zero_add]; exact (h.laid i (by omega)).mono (fun _ _ => trivial)⟩

theorem Made4.later {w wr wr' : World} {n k : Nat} {S : Nat → Sp} (h : Made4 w wr n k S) (hs : wr.Since wr.heap.size wr') : Made4 w wr' n k S :=
  ⟨Since.step h.since hs, h.room.since hs h.room.1, fun j hj => (h.laid j hj).since hs (Nat.le_refl _)⟩


/-- A row of n spans (5 cells each) under construction at the end of w's heap; the first k are laid. -/
structure Made5 (w wr : World) (n k : Nat) (S : Nat → Sp) : Prop where
  since : w.Since w.heap.size wr
  room : Room wr w.heap.size (n * 5)
  laid : ∀ j, j < k → IsSp5 (· ≠ w.heap.size) wr w.heap.size (j * 5) (S j)

/-- The cells of the next place. -/
theorem Made5.next {w wr : World} {n k : Nat} {S : Nat → Sp} (h : Made5 w wr n k S) (hk : k < n) : wr.there w.heap.size (k * 5) 5 := h.room.there (o := k * 5) (m := 5) (by have := Nat.mul_le_mul_right 5 (Nat.succ_le_of_lt hk); omega)

theorem Made5.step0 {w wr : World} {n k : Nat} {S : Nat → Sp} {wa : Option Addr} {wc : Nat} (h : Made5 w wr n k S) (hk : k < n) (hz : wa = none → (S k).wl = [] ∧ wc = 0) (hne : 0 < (S k).wl.length → ∀ x, wa = some x → x.block ≠ w.heap.size) (hl : IsList wr wa (S k).wl) :
    Made5 w (wr.setCells w.heap.size (k * 5) [.int .i64 (S k).lo, .int .i64 (S k).hi, .map none, .int .i64 (S k).pend, .slice wa (S k).wl.length wc]) n (k + 1) S :=
  ⟨(Since.setCells (Nat.le_refl w.heap.size) _ (k * 5) wr h.since), h.room.setCells _ _ _, fun j hj => by
    by_cases e : j = k
    · subst e
      exact IsSp5.stored h.room.1 (h.next hk) hz hne hl
    · exact (h.laid j (by omega)).apart _ _ (fun _ => .inl (by omega))⟩

theorem Made5.step {w wr : World} {n k : Nat} {S : Nat → Sp} {wa : Option Addr} {wc : Nat} (h : Made5 w wr n k S) (hk : k < n) (hz : wa = none → (S k).wl = [] ∧ wc = 0) (hne : 0 < (S k).wl.length → ∀ x, wa = some x → x.block ≠ w.heap.size) (hl : IsList wr wa (S k).wl) :
    Made5 w (wr.setCells w.heap.size (k * 5) [.int .i64 (S k).lo, .int .i64 (S k).hi, .map none, .int .i64 (S k).pend, .slice wa (S k).wl.length wc]).drew n (k + 1) S :=
  let h0 := h.step0 hk hz hne hl
  ⟨h0.since.drew, h0.room.drew, fun j hj => (h0.laid j hj).drew⟩

theorem Made5.all {w wr : World} {n k : Nat} {S : Nat → Sp} (h : Made5 w wr n k S) (hk : k = n) : IsSps5 wr (some ⟨w.heap.size, 0, none⟩) n S :=
  fun _ => ⟨_, _, rfl, fun i hi => by rw [Nat.zero_add]; exact (h.laid i (by omega)).mono (fun _ _ => trivial)⟩

theorem Made5.later {w wr wr' : World} {n k : Nat} {S : Nat → Sp} (h : Made5 w wr n k S) (hs : wr.Since wr.heap.size wr') : Made5 w wr' n k S :=
  ⟨Since.step h.since hs, h.room.since hs h.room.1, fun j hj => (h.laid j hj).since hs (Nat.le_refl _)⟩

end Go.Proofs.Qxb6600061a
