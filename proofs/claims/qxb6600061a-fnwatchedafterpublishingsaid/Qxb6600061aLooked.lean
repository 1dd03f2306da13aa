/-
  looked (seat 061a).
-/
import Derived.Test.Qxb6600061aLkPlain
import Derived.Deep.CutBlock
namespace Go.Proofs.Qxb6600061a
open Go.RowKit Go.Maps

theorem hid {p : Prop} (h : p) : Hid p := h

/-- The call returned a slice of spans that reads as L. -/
def GotSps (w : World) (L : List Sp) (e : Ending) : Prop := ∃ a c, e = .returned (.slice a L.length c) ∧ (a = none → L.length = 0 ∧ c = 0) ∧ IsSps5 w a L.length (fun i => L.getD i default)

set_option maxHeartbeats 400000 in
theorem looked_none (w : World) (a a1 a2 : Option Addr) (n c c1 c2 : Nat) (S : Nat → Sp) (hz : a = none → n = 0 ∧ c = 0) (h : IsSps5 w a n S) :
    Calls Try.prog 38 #[.slice a n c, .slice a1 0 c1, .slice a2 0 c2] w fun e w' => GotSps w' (sl S n) e ∧ w = w' := by
  have H := hid (h)
  clear h
  go_enter Try.func38, Try.ntmps38
  go_wp2
  go_ret
  refine ⟨⟨a, c, by rw [sl_len]; rfl, by rw [sl_len]; exact hz, fun hn => ?_⟩, rfl⟩
  rw [sl_len] at hn
  obtain ⟨b, off, e, hc⟩ := H.out hn
  exact ⟨b, off, e, fun i hi => by rw [sl_len] at hi; show IsSp5 _ _ _ _ ((sl S n).getD i default); rw [sl_at S n i hi]; exact hc i hi⟩

/-- The map and its variable, behind w's memory. -/
structure Inv1 (w wr : World) (k : Nat) (g : Int → ByteArray) : Prop where
  since : w.Since w.heap.size wr
  seen : Seen wr (w.heap.size + 1) w.heap.size k g

theorem Inv1.start (w : World) : Inv1 w ((w.alloc (.map #[] 0)).alloc (.cells #[.map (some w.heap.size)] 66)) 0 (fun _ => ⟨#[]⟩) := by
  have s1 := (World.Since.refl w.heap.size w).alloc (Nat.le_refl _) (.map #[] 0)
  have s2 := (World.Since.refl (w.alloc (.map #[] 0)).heap.size (w.alloc (.map #[] 0))).alloc (Nat.le_refl _) (.cells #[.map (some w.heap.size)] 66)
  refine ⟨s1.alloc (by simp) _, ?_, (MapIs.made w).since s2 (by simp)⟩
  have h0 := heap_alloc_new (w.alloc (.map #[] 0)) (.cells #[.map (some w.heap.size)] 66)
  have e : (w.alloc (.map #[] 0)).heap.size = w.heap.size + 1 := by simp
  rw [e] at h0
  unfold World.cell?
  rw [h0]
  rfl

theorem Inv1.put {w wr w1 : World} {k : Nat} {g : Int → ByteArray} {D : DataW Unit} {x : Int} {s : List UInt8} (h : Inv1 w wr k g) (hD : wr.ownsMap Try.prog 2 (plainElem Try.prog 67) w.heap.size k D) (hat : ∀ x, D.atKey (.int .i64 x) (.lit (.string [])) = .lit (.string (g x).data.toList)) (hx : Ok64 x)
    (h1 : w1.ownsMap Try.prog 2 (plainElem Try.prog 67) w.heap.size (k + 1) (D.put (.int .i64 x) (.lit (.string (⟨s.toArray⟩ : ByteArray).data.toList)))) (hg : wr.grownBy w1 (some w.heap.size)) : Inv1 w w1 (k + 1) (upd g x ⟨s.toArray⟩) :=
  ⟨h.since.grown hg h.since.size (fun j hj => by injection hj with hj; omega), hg.cell h.seen.box (by simp), MapIs.put hD hat hx h1⟩

/-- A span laid into a new block at wr's end. -/
structure Boxed (wr wx : World) (z : SpV) : Prop where
  since : wr.Since wr.heap.size wx
  lt : wr.heap.size < wx.heap.size
  c0 : wx.cell? ⟨wr.heap.size, 0, none⟩ = some (.int .i64 z.s.lo)
  c1 : wx.cell? ⟨wr.heap.size, 1, none⟩ = some (.int .i64 z.s.hi)
  c2 : wx.cell? ⟨wr.heap.size, 2, none⟩ = some (.map none)
  c3 : wx.cell? ⟨wr.heap.size, 3, none⟩ = some (.int .i64 z.s.pend)
  c4 : wx.cell? ⟨wr.heap.size, 4, none⟩ = some (.slice z.wa z.s.wl.length z.wc)
  f4 : wx.frozen? ⟨wr.heap.size, 4, none⟩ = false

theorem Boxed.made (wr : World) (z : SpV) : Boxed wr (wr.alloc (Obj.cells #[.int .i64 z.s.lo, .int .i64 z.s.hi, .map none, .int .i64 z.s.pend, .slice z.wa z.s.wl.length z.wc] 64)) z := by
  have h0 := heap_alloc_new wr (Obj.cells #[.int .i64 z.s.lo, .int .i64 z.s.hi, .map none, .int .i64 z.s.pend, .slice z.wa z.s.wl.length z.wc] 64)
  refine ⟨(World.Since.refl _ _).alloc (Nat.le_refl _) _, by simp, ?_, ?_, ?_, ?_, ?_, ?_⟩
  all_goals first | (unfold World.cell?; rw [h0]; rfl) | (unfold World.frozen?; rw [h0]; rfl)

theorem Boxed.later {wr wx wy : World} {z : SpV} (h : Boxed wr wx z) (hs : wx.Since wx.heap.size wy) : Boxed wr wy z :=
  ⟨Since.step h.since hs, Nat.lt_of_lt_of_le h.lt hs.size, (hs.cell (a := ⟨wr.heap.size, 0, none⟩) h.lt).trans h.c0, (hs.cell (a := ⟨wr.heap.size, 1, none⟩) h.lt).trans h.c1, (hs.cell (a := ⟨wr.heap.size, 2, none⟩) h.lt).trans h.c2,
    (hs.cell (a := ⟨wr.heap.size, 3, none⟩) h.lt).trans h.c3, (hs.cell (a := ⟨wr.heap.size, 4, none⟩) h.lt).trans h.c4, (hs.frozen (a := ⟨wr.heap.size, 4, none⟩) h.lt).trans h.f4⟩

theorem Boxed.put {wr wx : World} {z : SpV} (h : Boxed wr wx z) (l : List Int) (a4 : Option Addr) (c4 : Nat) : Boxed wr (wx.setCell ⟨wr.heap.size, 4, none⟩ (.slice a4 l.length c4)) ⟨{ z.s with wl := l }, a4, c4⟩ := by
  have o : ∀ j, j ≠ 4 → (wx.setCell ⟨wr.heap.size, 4, none⟩ (.slice a4 l.length c4)).cell? ⟨wr.heap.size, j, none⟩ = wx.cell? ⟨wr.heap.size, j, none⟩ := fun j hj =>
    World.cell?_setCell_other _ _ _ _ (by intro e2; injection e2 with _ e3; exact hj e3.symm)
  refine ⟨h.since.setCell (Nat.le_refl _) _, by simpa [World.setCell] using h.lt, (o 0 (by omega)).trans h.c0, (o 1 (by omega)).trans h.c1, (o 2 (by omega)).trans h.c2, (o 3 (by omega)).trans h.c3, World.cell?_setCell_same _ _ _ h.c4, ?_⟩
  exact (World.frozen?_setCells wr.heap.size [.slice a4 l.length c4] 4 wx ⟨wr.heap.size, 4, none⟩).trans h.f4

theorem OwnSl.put {base : Nat} {w : World} {a : Option Addr} {n cap : Nat} {f : Nat → Int} {b : Nat} (h : OwnSl base w a n cap f) (hb : b < base) (o : Nat) (u : Value) : IsInts (w.setCell ⟨b, o, none⟩ u) a n f :=
  IsInts.setCells (vs := [u]) (o' := o) (B := b) h.isInts (fun _ x hx e => by have := h.far x hx; omega)

theorem Seen.put {w : World} {v M n B : Nat} {g : Int → ByteArray} (h : Seen w v M n g) (hv : v < B) (hM : M < B) (o : Nat) (u : Value) : Seen (w.setCell ⟨B, o, none⟩ u) v M n g :=
  h.since ((World.Since.refl B w).setCell (Nat.le_refl _) u) hv hM

theorem KeptIs.alloc {base : Nat} {w : World} {v : Value} {L : List Sp} (h : KeptIs base w v L) (o : Obj) : KeptIs base (w.alloc o) v L := h.since ((World.Since.refl _ _).alloc (Nat.le_refl _) o)

theorem KeptIs.low {base : Nat} {w : World} {v : Value} {L : List Sp} (h : KeptIs base w v L) : ∀ k, v.ownBlock = some k → base ≤ k ∧ k < w.heap.size := by
  obtain ⟨Z, _, h2, _⟩ := h
  exact h2.lt

theorem news_new (w : World) (l : List Value) (t : TypeId) : ∀ j u, l[j]? = some u → (w.alloc (.cells l.toArray t)).cell? ((⟨w.heap.size, 0, none⟩ : Addr).add j) = some u := by
  intro j u hu
  have hb := heap_alloc_new w (.cells l.toArray t)
  rw [Addr.add_mid, Nat.zero_add]
  simp only [World.cell?, hb]
  simpa using hu

theorem Inv1.grown {w wr w1 : World} {k : Nat} {g : Int → ByteArray} {row : Option Nat} (h : Inv1 w wr k g) (o : Obj) (hg : (wr.alloc o).grownBy w1 row) (hr : ∀ j, row = some j → w.heap.size + 2 ≤ j) : Inv1 w w1 k g := by
  have s1 := (World.Since.refl wr.heap.size wr).alloc (Nat.le_refl _) o
  have s2 := h.since.alloc h.since.size o
  have q := h.seen.since s1 (World.block_lt_of_cell? _ _ h.seen.box) h.seen.map.lt
  refine ⟨s2.grown hg s2.size (fun j hj => by have := hr j hj; omega), hg.cell q.box (fun e => ?_), q.map.grown hg (fun e => ?_)⟩
  · have : w.heap.size + 2 ≤ w.heap.size + 1 := hr _ e.symm
    omega
  · have := hr _ e.symm
    omega

set_option maxHeartbeats 1600000 in
theorem looked_some (w : World) (a a1 a2 : Option Addr) (n c n1 c1 n2 c2 : Nat) (S : Nat → Sp) (f1 f2 : Nat → Int) (hn : n ≤ 1048576) (m1 : n1 ≤ 1048576) (m2 : n2 ≤ 1048576) (hne : ¬ (n1 = 0 ∧ n2 = 0))
    (h : IsSps5 w a n S) (hw : ∀ i, i < n → (S i).wl.length ≤ 1048576) (ho : ∀ i, i < n → ∀ x ∈ (S i).wl, Ok64 x) (h1 : IsInts w a1 n1 f1) (o1 : ∀ i, i < n1 → Ok64 (f1 i)) (h2 : IsInts w a2 n2 f2) (o2 : ∀ i, i < n2 → Ok64 (f2 i)) :
    Calls Try.prog 38 #[.slice a n c, .slice a1 n1 c1, .slice a2 n2 c2] w fun e w' => GotSps w' (lk (ls f1 n1) (ls f2 n2) (sl S n)) e ∧ w.Since w.heap.size w' := by
  have H := hid (h)
  have HW := hid (hw)
  have HO := hid (ho)
  have O1 := hid (o1)
  have O2 := hid (o2)
  have H1 := hid (h1)
  have H2 := hid (h2)
  clear h hw ho o1 o2 h1 h2
  have hmm := @run_makeMap Try.prog
  have t1 : ((n1 : Int) == 0 && (n2 : Int) == 0) = false := by
    cases e : ((n1 : Int) == 0 && (n2 : Int) == 0) with
    | false => rfl
    | true => simp at e; exact absurd e hne
  go_enter Try.func38, Try.ntmps38
  go_upto_region 1 with fail
  go_cut [22] from 15 (fun s22 wx => s22 = .bool false ∧ w = wx)
  case first =>
    by_cases e1 : n1 = 0
    · have e2 : ((n2 : Int) == 0) = false := by simp; omega
      go_wp2
      go_meet
      exact ⟨rfl, rfl⟩
    · have e2 : ((n1 : Int) == 0) = false := by simp; omega
      go_wp2
      go_meet
      exact ⟨rfl, rfl⟩
  case rest =>
  obtain ⟨rfl, rfl⟩ := hcut
  clear t1
  go_upto_block 0 with fail
  go_cut [] from 8 (fun wx => Inv1 w wx n1 (gA f1 sPend (fun _ => ⟨#[]⟩) n1))
  case first =>
    go_wp2_with fail
    clear hmm
    go_loopg [27] n1 (fun g s27 wr => ∃ k : Nat, k ≤ n1 ∧ g = n1 - k ∧ s27 = .int .i64 k ∧ Inv1 w wr k (gA f1 sPend (fun _ => ⟨#[]⟩) k))
    case atStart => exact ⟨0, Nat.zero_le _, rfl, rfl, Inv1.start w⟩
    case round =>
      obtain ⟨k, hk, rfl, rfl, hI⟩ := hrel
      by_cases hlt : k < n1
      · obtain ⟨b, off, rfl, hb, hc⟩ := H1.out (by omega)
        have g0 : wr.cell? ⟨b, off + k, none⟩ = some (.int .i64 (f1 k)) := by rw [hI.since.cell (a := ⟨b, off + k, none⟩) hb]; exact hc k hlt
        have g1 := hI.seen.box
        have hz : (k : Int) < (n1 : Int) := by omega
        have hx := O1.out k hlt
        obtain ⟨D, hD, hat⟩ := hI.seen.map
        clear hc H1
        go_wp2_with (at_mapUpdate; refine wpList_mapUpdate_own _ rfl _ _ _ 66 rfl 2 67 keyed2 Try.underlying66 _ w.heap.size k D rfl hD (by unfold maxLen; omega) _ _ _ rfl rfl (keyOf_int_mk Try.underlying2 hx) _ [] (plainElem_string Try.underlying67 (by decide)) ?_)
        intro w1 hown1 hgrow1
        have hI' := hid (hI.put hD hat hx hown1 hgrow1)
        clear hown1 hgrow1 hat hD g0 g1 hI
        go_wp2
        go_roundg (n1 - (k + 1))
        case measure => go_light; omega
        case rel => go_light; exact ⟨k + 1, by omega, rfl, by go_num, hI'.out⟩
      · obtain rfl : k = n1 := by omega
        go_wp2
        go_meet
        exact hI
  case rest =>
  clear hmm
  rename World => w1
  have hI1 := hcut
  clear hcut
  go_upto_block 2 with fail
  go_cut [] from 8 (fun wx => Inv1 w wx (n1 + n2) (gE f1 n1 f2 n2))
  case first =>
    go_wp2_with fail
    go_loopg [36] n2 (fun g s36 wr => ∃ j : Nat, j ≤ n2 ∧ g = n2 - j ∧ s36 = .int .i64 j ∧ Inv1 w wr (n1 + j) (gA f2 sPub (gA f1 sPend (fun _ => ⟨#[]⟩) n1) j))
    case atStart => exact ⟨0, Nat.zero_le _, rfl, rfl, hI1⟩
    case round =>
      obtain ⟨j, hj, rfl, rfl, hI⟩ := hrel
      clear hI1
      by_cases hlt : j < n2
      · obtain ⟨b, off, rfl, hb, hc⟩ := H2.out (by omega)
        have g0 : wr.cell? ⟨b, off + j, none⟩ = some (.int .i64 (f2 j)) := by rw [hI.since.cell (a := ⟨b, off + j, none⟩) hb]; exact hc j hlt
        have g1 := hI.seen.box
        have hz : (j : Int) < (n2 : Int) := by omega
        have hx := O2.out j hlt
        obtain ⟨D, hD, hat⟩ := hI.seen.map
        clear hc H2
        go_wp2_with (at_mapUpdate; refine wpList_mapUpdate_own _ rfl _ _ _ 66 rfl 2 67 keyed2 Try.underlying66 _ w.heap.size (n1 + j) D rfl hD (by unfold maxLen; omega) _ _ _ rfl rfl (keyOf_int_mk Try.underlying2 hx) _ [] (plainElem_string Try.underlying67 (by decide)) ?_)
        intro w1 hown1 hgrow1
        have hI' := hid (hI.put hD hat hx hown1 hgrow1)
        clear hown1 hgrow1 hat hD g0 g1 hI
        go_wp2
        go_roundg (n2 - (j + 1))
        case measure => go_light; omega
        case rel => go_light; exact ⟨j + 1, by omega, rfl, by go_num, hI'.out⟩
      · obtain rfl : j = n2 := by omega
        go_wp2
        go_meet
        exact hI
  case rest =>
  rename World => w2
  have hI2 := hcut
  clear hcut hI1
  go_wp2
  go_loopg [12, 45] n (fun g s12 s45 wr => ∃ k : Nat, k ≤ n ∧ g = n - k ∧ s45 = .int .i64 k ∧ Inv1 w wr (n1 + n2) (gE f1 n1 f2 n2) ∧ KeptIs (w.heap.size + 2) wr s12 (lk (ls f1 n1) (ls f2 n2) (sl S k)))
  case atStart => exact ⟨0, Nat.zero_le _, rfl, rfl, hI2, KeptIs.nil _ _⟩
  case round =>
    obtain ⟨k, hk, rfl, rfl, hI, hK⟩ := hrel
    clear hI2
    by_cases hlt : k < n
    · obtain ⟨b, off, rfl, hc⟩ := H.out (by omega)
      have hz : (k : Int) < (n : Int) := by omega
      have s := (hc k hlt).since hI.since (Nat.le_refl _)
      obtain ⟨hb, e0, e1, e2, e3, wa, wc, e4, hwz, -, hwl⟩ := s
      clear hc
      have hB := Boxed.made wr ⟨S k, wa, wc⟩
      have hwk := HW.out k hlt
      have hok : ∀ i, i < (S k).wl.length → Ok64 ((S k).wl.getD i 0) := fun i hi => HO.out k hlt _ (by
        have e : (S k).wl.getD i 0 = (S k).wl[i] := by simp [List.getD, hi]
        rw [e]; exact List.getElem_mem hi)
      have HWZ := hid (hwz)
      have HWL := hid (hwl)
      have HK := hid (hK)
      have HOK := hid (hok)
      clear hwz hwl hK hok HW HO O1 O2 H1 H2 H
      have hmf : ∀ fn first cap w, (Instr.makeFunc fn first cap).run Try.prog w = .ok (.func fn first cap) w := fun _ _ _ _ => rfl
      go_upto_region 18 with fail
      generalize wr.alloc (Obj.cells #[.int .i64 (S k).lo, .int .i64 (S k).hi, .map none, .int .i64 (S k).pend, .slice wa (S k).wl.length wc] 64) = wx at hB ⊢
      clear e0 e1 e2 e3 e4
      have b4 := hB.c4
      have hSx := hI.seen.since hB.since (World.block_lt_of_cell? _ _ hI.seen.box) hI.seen.map.lt
      have hAny := hid (any_gE f1 n1 f2 n2 (S k).wl)
      go_wp2_with fail
      refine (contains_any 45 (w.heap.size + 1) _ (isP (gE f1 n1 f2 n2)) call45 (tells1 _ _ (n1 + n2) _) wx wa (S k).wl.length wc _ hwk (HWL.out.since hB.since (Nat.le_refl _)) HOK.out hSx).mono ?_
      rw [hAny.out]
      clear hAny
      rintro e w' ⟨rfl, rfl⟩
      cases hany : (S k).wl.any (bad (ls f1 n1) (ls f2 n2))
      · have hL := hid (lk_stay hany)
        clear hany
        go_wp2_with fail
        refine (sclone_any wx wa (S k).wl.length wc _ hwk (fun e => ⟨by rw [(HWZ.out e).1]; rfl, (HWZ.out e).2⟩) (HWL.out.since hB.since (Nat.le_refl _))).mono ?_
        rintro e w3 ⟨⟨a3, c3, rfl, hO⟩, hs3⟩
        have HO3 := hid hO
        have hT := hid (kp_gE f1 n1 f2 n2 (S k))
        clear hO
        go_wp2_with fail
        refine (delete_sl 48 (w.heap.size + 1) _ (isQ (gE f1 n1 f2 n2)) call48 (tells2 _ w.heap.size (n1 + n2) _) w3 wx.heap.size a3 (S k).wl.length c3 _ hwk HO3.out HOK.out (fun w' hs => hSx.since (hs3.trans hs) (World.block_lt_of_cell? _ _ hSx.box) hSx.map.lt)).mono ?_
        rw [hT.out]
        rintro e w4 ⟨⟨a4, c4, rfl, hO4⟩, hs4⟩
        have hB4 := hB.later (hs3.trans hs4)
        have hS4 := hSx.since (hs3.trans hs4) (World.block_lt_of_cell? _ _ hSx.box) hSx.map.lt
        have q4 := hB4.c4
        have qf := hB4.f4
        have hB5 := hB4.put (thin (ls f2 n2) (S k)).wl a4 c4
        have hF := hid (Nat.lt_of_lt_of_le hB.lt (Nat.le_refl _))
        have HO4 := hid hO4
        have hL5 := hid (OwnSl.put hO4 hB.lt 4 (Value.slice a4 (thin (ls f2 n2) (S k)).wl.length c4))
        have hS5 := hid (Seen.put hS4 (World.block_lt_of_cell? _ _ hI.seen.box) hI.seen.map.lt 4 (Value.slice a4 (thin (ls f2 n2) (S k)).wl.length c4))
        clear hO4 HO3 hT hs3 hs4 hB hSx hS4 hB4 b4
        go_upto_region 20 with fail
        generalize w4.setCell ⟨wr.heap.size, 4, none⟩ (Value.slice a4 (thin (ls f2 n2) (S k)).wl.length c4) = w5 at hB5 hL5 hS5 ⊢
        clear q4 qf
        have d0 : w5.cell? ⟨wr.heap.size, 0, none⟩ = some (.int .i64 (S k).lo) := hB5.c0
        have d1 : w5.cell? ⟨wr.heap.size, 1, none⟩ = some (.int .i64 (S k).hi) := hB5.c1
        have d2 : w5.cell? ⟨wr.heap.size, 2, none⟩ = some (.map none) := hB5.c2
        have d3 : w5.cell? ⟨wr.heap.size, 3, none⟩ = some (.int .i64 (S k).pend) := hB5.c3
        have d4 : w5.cell? ⟨wr.heap.size, 4, none⟩ = some (.slice a4 (thin (ls f2 n2) (S k)).wl.length c4) := hB5.c4
        have hI5 : Inv1 w w5 (n1 + n2) (gE f1 n1 f2 n2) := ⟨Since.step hI.since hB5.since, hS5.out⟩
        have hlow := hid HK.out.low
        obtain ⟨Z, hZ, hown, hWo⟩ := (HK.out.since hB5.since).alloc (.cells #[.int .i64 (S k).lo, .int .i64 (S k).hi, .map none, .int .i64 (S k).pend, .slice a4 (thin (ls f2 n2) (S k)).wl.length c4] 64)
        have HZ := hid hZ
        have HWo := hid hWo
        have Hown := hid hown
        have hZl : Z.length ≤ 1048576 := by
          have e : Z.length = (lk (ls f1 n1) (ls f2 n2) (sl S k)).length := by rw [← hZ]; simp
          have e2 := lk_le (ls f1 n1) (ls f2 n2) (sl S k)
          rw [sl_len] at e2
          omega
        have hvb : w.heap.size + 2 ≤ w5.heap.size := by have := World.block_lt_of_cell? _ _ hI5.seen.box; exact this
        clear hZ hWo hown
        obtain ⟨i0, hi, hzz⟩ := Option.map_eq_some_iff.1 Try.info64
        simp only [Prod.mk.injEq] at hzz
        obtain ⟨hz0, hz1, hz2⟩ := hzz
        go_wp2_with (at_builtin; refine wpList_append_own_at _ rfl _ _ 57 rfl (w.heap.size + 2) 64 i0 (.agg #[.int .i64 0, .int .i64 0, .map none, .int .i64 0, .slice none 0 0]) 5 56 Try.underlying57 hi hz0 hz1 hz2 rfl (by decide) u12 Z.length _ rfl Hown.out ⟨w5.heap.size, 0, none⟩ 1 1 (SpV.cells ⟨thin (ls f2 n2) (S k), a4, c4⟩) rfl rfl (news_new w5 (SpV.cells ⟨thin (ls f2 n2) (S k), a4, c4⟩) 64) (SpV.one _) (by unfold maxLen; omega) (by omega) (by simp; omega) ?_)
        intro v' w6 hown' hgrow _ hat
        have hK6 := hid (KeptIs.append HZ.out HWo.out (z := ⟨thin (ls f2 n2) (S k), a4, c4⟩) ⟨fun e => ⟨List.length_eq_zero_iff.1 (HO4.out.nilZ e).1, (HO4.out.nilZ e).2⟩, IsList.since hL5.out ((World.Since.refl _ _).alloc (Nat.le_refl _) _) (Nat.le_refl _), fun _ x hx e => by
          have h1 := (hlow.out _ e).2
          have h2 := HO4.out.far x hx
          have h3 := hF.out
          omega⟩ hown' hgrow (by simpa using hat))
        have hI6 := hid (Inv1.grown hI5 (.cells #[.int .i64 (S k).lo, .int .i64 (S k).hi, .map none, .int .i64 (S k).pend, .slice a4 (thin (ls f2 n2) (S k)).wl.length c4] 64) hgrow (fun j hj => (hlow.out j hj).1))
        clear hown' hgrow hat Hown HWo d0 d1 d2 d3 d4 hB5 hI5 hI HK hvb hi hz0 hz1 hz2
        go_wp2
        go_roundg (n - (k + 1))
        case measure => go_light; omega
        case rel => go_light; exact ⟨k + 1, by omega, rfl, by go_num, hI6.out, by rw [hL.out]; exact hK6.out⟩
      · have hL := hid (lk_go hany)
        clear hany
        go_wp2
        go_roundg (n - (k + 1))
        case measure => go_light; omega
        case rel => go_light; exact ⟨k + 1, by omega, rfl, by go_num, ⟨Since.step hI.since hB.since, hSx⟩, by rw [hL.out]; exact HK.out.since hB.since⟩
    · obtain rfl : k = n := by omega
      go_wp2
      go_ret
      obtain ⟨a', c', e, h1, _, h3⟩ := hK.out
      exact ⟨⟨a', c', by rw [← e]; rfl, h1, h3⟩, hI.since⟩

theorem looked_any (w : World) (a a1 a2 : Option Addr) (n c n1 c1 n2 c2 : Nat) (S : Nat → Sp) (f1 f2 : Nat → Int) (hn : n ≤ 1048576) (m1 : n1 ≤ 1048576) (m2 : n2 ≤ 1048576) (hz : a = none → n = 0 ∧ c = 0)
    (h : IsSps5 w a n S) (hw : ∀ i, i < n → (S i).wl.length ≤ 1048576) (ho : ∀ i, i < n → ∀ x ∈ (S i).wl, Ok64 x) (h1 : IsInts w a1 n1 f1) (o1 : ∀ i, i < n1 → Ok64 (f1 i)) (h2 : IsInts w a2 n2 f2) (o2 : ∀ i, i < n2 → Ok64 (f2 i)) :
    Calls Try.prog 38 #[.slice a n c, .slice a1 n1 c1, .slice a2 n2 c2] w fun e w' => GotSps w' (lk (ls f1 n1) (ls f2 n2) (sl S n)) e ∧ w.Since w.heap.size w' := by
  by_cases e : n1 = 0 ∧ n2 = 0
  · obtain ⟨rfl, rfl⟩ := e
    refine (looked_none w a a1 a2 n c c1 c2 S hz h).mono fun e w' ⟨he, hw⟩ => ⟨?_, hw ▸ World.Since.refl _ _⟩
    have e1 : lk (ls f1 0) (ls f2 0) (sl S n) = sl S n := lk_none _
    rw [e1]
    exact he
  · exact looked_some w a a1 a2 n c n1 c1 n2 c2 S f1 f2 hn m1 m2 e h hw ho h1 o1 h2 o2

set_option maxHeartbeats 800000 in
theorem zzLooked_any (w : World) (a a1 a2 : Option Addr) (n c n1 c1 n2 c2 : Nat) (S : Nat → Sp) (f1 f2 : Nat → Int) (hn : n ≤ 1048576) (m1 : n1 ≤ 1048576) (m2 : n2 ≤ 1048576) (hz : a = none → n = 0 ∧ c = 0)
    (h : IsSps5 w a n S) (hw : ∀ i, i < n → (S i).wl.length ≤ 1048576) (ho : ∀ i, i < n → ∀ x ∈ (S i).wl, Ok64 x) (h1 : IsInts w a1 n1 f1) (o1 : ∀ i, i < n1 → Ok64 (f1 i)) (h2 : IsInts w a2 n2 f2) (o2 : ∀ i, i < n2 → Ok64 (f2 i)) :
    Calls Try.prog 14 #[.slice a n c, .slice a1 n1 c1, .slice a2 n2 c2] w fun e w' => GotSps w' (lk (ls f1 n1) (ls f2 n2) (sl S n)) e ∧ w.Since w.heap.size w' := by
  have H := hid h
  have HW := hid hw
  have HO := hid ho
  have O1 := hid o1
  have O2 := hid o2
  have H1 := hid h1
  have H2 := hid h2
  clear h hw ho o1 o2 h1 h2
  go_enter Try.func14, Try.ntmps14
  go_wp2_with fail
  refine (zzIn_any w a n c S hn hz H.out).mono ?_
  rintro e w1 ⟨a', c', rfl, hz', _, hs1, hS1⟩
  have HS1 := hid hS1
  have HZ1 := hid hz'
  clear hS1 hz'
  go_wp2_with fail
  refine (looked_any w1 a' a1 a2 n c' n1 c1 n2 c2 S f1 f2 hn m1 m2 HZ1.out HS1.out HW.out HO.out (H1.out.since hs1 (Nat.le_refl _)) O1.out (H2.out.since hs1 (Nat.le_refl _)) O2.out).mono ?_
  rintro e w2 ⟨⟨a3, c3, rfl, hz3, hS3⟩, hs2⟩
  have HS3 := hid hS3
  have HZ3 := hid hz3
  clear hS3 hz3
  go_wp2_with fail
  refine (zzOut_any w2 a3 _ c3 _ (Nat.le_trans (lk_le _ _ _) (by rw [sl_len]; exact hn)) HZ3.out HS3.out).mono ?_
  rintro e w3 ⟨a4, c4, rfl, hz4, _, hs3, hS4⟩
  have HS4 := hid hS4
  have HZ4 := hid hz4
  clear hS4 hz4
  go_wp2
  go_ret
  exact ⟨⟨a4, c4, rfl, HZ4.out, HS4.out⟩, Since.step (Since.step hs1 hs2) hs3⟩
end Go.Proofs.Qxb6600061a
