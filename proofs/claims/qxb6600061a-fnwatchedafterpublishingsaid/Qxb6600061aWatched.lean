/-
  watched, ZZWatched (seat 061a).
-/
import Derived.Test.Qxb6600061aLooked
namespace Go.Proofs.Qxb6600061a
open Go.RowKit Go.Maps

/-- All seqs that the spans watch, in order. -/
def flat (l : List Sp) : List Int := l.flatMap (·.wl)
theorem flat_succ (S : Nat → Sp) (k : Nat) : flat (sl S (k + 1)) = flat (sl S k) ++ (S k).wl := by simp [flat, sl_succ]
theorem flat_mono (S : Nat → Sp) {k n : Nat} (h : k ≤ n) : (flat (sl S k)).length ≤ (flat (sl S n)).length := by
  induction n with
  | zero => obtain rfl : k = 0 := by omega
            exact Nat.le_refl _
  | succ n ih =>
    by_cases e : k = n + 1
    · subst e; exact Nat.le_refl _
    · have := ih (by omega)
      rw [flat_succ, List.length_append]
      omega

/-- Numbers as values. -/
def vl (l : List Int) : List Value := l.map (Value.int .i64)
theorem vl_len (l : List Int) : (vl l).length = l.length := by simp [vl]
theorem vl_one {l : List Int} : ∀ u ∈ vl l, u.oneCell' = true := by
  intro u hu
  simp only [vl, List.mem_map] at hu
  obtain ⟨i, _, rfl⟩ := hu
  rfl
theorem IsList.news {w : World} {ad : Addr} {l : List Int} (h : IsList w (some ad) l) : ∀ j u, (vl l)[j]? = some u → w.cell? (ad.add j) = some u := by
  intro j u hu
  have hj : j < l.length := by have := (List.getElem?_eq_some_iff.1 hu).1; rwa [vl_len] at this
  obtain ⟨b, off, e, _, hc⟩ := h (by omega)
  obtain rfl := Option.some.inj e
  rw [Addr.add_mid, hc j hj]
  simp [vl, hj] at hu
  simp [List.getD, hj, hu]

/-- The value v is a row behind base that holds l. -/
def RowIs (base : Nat) (w : World) (v : Value) (l : List Int) : Prop := w.ownsRow base 2 1 v l.length (vl l)

theorem RowIs.since {base : Nat} {w w' : World} {v : Value} {l : List Int} (h : RowIs base w v l) (hs : w.Since w.heap.size w') : RowIs base w' v l := by
  refine World.ownsRow.kept h (Since.grownNone hs) ?_
  cases v.ownBlock with
  | none => exact .inl rfl
  | some k => exact .inr (by simp)

theorem RowIs.out {base : Nat} {w : World} {v : Value} {l : List Int} (h : RowIs base w v l) : ∃ a c, v = .slice a l.length c ∧ IsList w a l := by
  have h' : w.ownsRow base 2 1 v l.length (vl l) := h
  rcases h'.2 with ⟨rfl, e⟩ | ⟨g, cap, cur, rfl, hb, hg, hle, hmx, _⟩
  · exact ⟨none, 0, by rw [e], fun h => absurd h (by omega)⟩
  · refine ⟨_, cap, rfl, fun _ => ⟨g, 0, rfl, (h'.lt g rfl).2, fun i hi => ?_⟩⟩
    rw [Nat.zero_add, h'.cellAt i (by omega)]
    simp [vl, List.getD, hi]

/-- The call returned a slice that reads as l. -/
def GotL (w : World) (l : List Int) (e : Ending) : Prop := ∃ a c, e = .returned (.slice a l.length c) ∧ IsList w a l

theorem wpList_append_none {w : World} {ops : Array Oper} {rest : List Oper} {o : Oper} {a : Act} {Q : Exit → Act → World → Prop} (hgd : o.guard = none) (s x : Operand)
    (ho : o.op = .call { callee := .builtin .append, args := #[s, x], argTypes := #[23, 23] }) (v : Value) (hs : a.eval s = v) (hx : a.eval x = .slice none 0 0) (hap : ∀ ty, (Builtin.append_ #[23, 23] ty #[v, .slice none 0 0]).run Try.prog w = .ok v w)
    (h : wpList Try.prog ops Q rest (a.put o.dst v) w) : wpList Try.prog ops Q (o :: rest) a w := by
  refine wpList_plain hgd fun K hK => ?_
  unfold Oper.wp execOp
  simp only [ho, resolve, invoke, builtin, Sem.run_bind, Sem.run_pure, Result.andThen_ok, List.map_toArray, List.map_cons, List.map_nil, hs, hx, hap]
  exact hK _ _ h

set_option maxHeartbeats 1600000 in
theorem watched_any (w : World) (a : Option Addr) (n c : Nat) (S : Nat → Sp) (hn : n ≤ 1048576) (ht : (flat (sl S n)).length ≤ 1048576) (h : IsSps5 w a n S) :
    Calls Try.prog 40 #[.slice a n c] w fun e w' => GotL w' (flat (sl S n)) e ∧ w.Since w.heap.size w' := by
  have H := hid h
  have HT := hid ht
  obtain ⟨i0, hi, hzz⟩ := Option.map_eq_some_iff.1 Try.info2
  simp only [Prod.mk.injEq] at hzz
  obtain ⟨hz0, hz1, hz2⟩ := hzz
  clear h ht
  go_enter Try.func40, Try.ntmps40
  go_wp2
  go_loopg [3, 8] n (fun g s3 s8 wr => ∃ k : Nat, k ≤ n ∧ g = n - k ∧ s8 = .int .i64 k ∧ w.Since w.heap.size wr ∧ RowIs w.heap.size wr s3 (flat (sl S k)))
  case atStart => exact ⟨0, Nat.zero_le _, rfl, rfl, World.Since.refl _ _, World.ownsRow_nil _ _ _ _⟩
  case round =>
    obtain ⟨k, hk, rfl, rfl, hS, hK⟩ := hrel
    by_cases hlt : k < n
    · obtain ⟨b, off, rfl, hc⟩ := H.out (by omega)
      have hz : (k : Int) < (n : Int) := by omega
      have s := (hc k hlt).since hS (Nat.le_refl _)
      obtain ⟨hb, e0, e1, e2, e3, wa, wc, e4, hwz, -, hwl⟩ := s
      have hB := Boxed.made wr ⟨S k, wa, wc⟩
      have hbig : (flat (sl S k)).length + (S k).wl.length ≤ 1048576 := by
        have h1 := flat_mono S (Nat.succ_le_of_lt hlt)
        rw [flat_succ, List.length_append] at h1
        exact Nat.le_trans h1 HT.out
      have HWL := hid hwl
      have HK := hid hK
      have HFS := hid (flat_succ S k)
      cases wa with
      | none =>
        obtain ⟨hw0, rfl⟩ := hwz rfl
        have HW0 := hid hw0
        clear hc hwz hwl hK hw0 H HT
        go_upto_region 5 with fail
        generalize wr.alloc (Obj.cells #[.int .i64 (S k).lo, .int .i64 (S k).hi, .map none, .int .i64 (S k).pend, .slice none (S k).wl.length 0] 64) = wx at hB ⊢
        clear e0 e1 e2 e3 e4
        have b4 : wx.cell? ⟨wr.heap.size, 4, none⟩ = some (.slice none 0 0) := by have := hB.c4; simpa [HW0.out] using this
        have hR := HK.out.since hB.since
        have hap : Hid (∀ ty, (Builtin.append_ #[23, 23] ty #[u3, .slice none 0 0]).run Try.prog wx = .ok u3 wx) := fun ty => run_append_owned_none wx w.heap.size 23 ty 2 i0 1 Try.underlying23 hi _ _ _ hR
        have HR := hid hR
        clear hR
        go_wp2_with (at_builtin; refine wpList_append_none rfl _ _ rfl _ rfl rfl hap.out ?_)
        go_wp2
        go_roundg (n - (k + 1))
        case measure => go_light; omega
        case rel => go_light; exact ⟨k + 1, by omega, rfl, by go_num, Since.step hS hB.since, by rw [HFS.out, HW0.out, List.append_nil]; exact HR.out⟩
      | some ad =>
        clear hc hwz hwl hK H HT
        go_upto_region 5 with fail
        generalize wr.alloc (Obj.cells #[.int .i64 (S k).lo, .int .i64 (S k).hi, .map none, .int .i64 (S k).pend, .slice (some ad) (S k).wl.length wc] 64) = wx at hB ⊢
        clear e0 e1 e2 e3 e4
        have b4 : wx.cell? ⟨wr.heap.size, 4, none⟩ = some (.slice (some ad) (S k).wl.length wc) := hB.c4
        have HR := hid (HK.out.since hB.since)
        have hSx := Since.step hS hB.since
        have HN := hid (IsList.news (HWL.out.since hB.since (Nat.le_refl _)))
        go_wp2_with (at_builtin; refine wpList_append_own _ rfl _ _ 23 rfl w.heap.size 2 i0 (.int .i64 0) 1 8 Try.underlying23 hi hz0 hz1 hz2 rfl (by decide) _ _ _ rfl HR.out ad (S k).wl.length wc (vl (S k).wl) rfl (by rw [vl_len, Nat.mul_one]) HN.out vl_one (by unfold maxLen; omega) (by omega) hSx.size ?_)
        intro v' w1 hown1 hgrow _
        have hR1 := hid (show RowIs w.heap.size w1 v' (flat (sl S (k + 1))) from by
          rw [HFS.out]
          unfold RowIs
          rw [List.length_append]
          unfold vl at hown1 ⊢
          rw [List.map_append]
          exact hown1)
        have hS1 := hSx.grown hgrow hSx.size (fun j hj => (World.ownsRow.lt HR.out j hj).1)
        clear hown1 hgrow HR HN hSx b4 hB
        go_wp2
        go_roundg (n - (k + 1))
        case measure => go_light; omega
        case rel => go_light; exact ⟨k + 1, by omega, rfl, by go_num, hS1, hR1.out⟩
    · obtain rfl : k = n := by omega
      go_wp2
      go_ret
      obtain ⟨a', c', e, h1⟩ := hK.out
      exact ⟨⟨a', c', by rw [← e]; rfl, h1⟩, hS⟩

set_option maxHeartbeats 800000 in
theorem zzWatched_any (w : World) (a : Option Addr) (n c : Nat) (S : Nat → Sp) (hn : n ≤ 1048576) (ht : (flat (sl S n)).length ≤ 1048576) (hz : a = none → n = 0 ∧ c = 0) (h : IsSps5 w a n S) :
    Calls Try.prog 25 #[.slice a n c] w fun e w' => GotL w' (flat (sl S n)) e ∧ w.Since w.heap.size w' := by
  have H := hid h
  have HT := hid ht
  have HZ := hid hz
  clear h ht hz
  go_enter Try.func25, Try.ntmps25
  go_wp2_with fail
  refine (zzIn_any w a n c S hn HZ.out H.out).mono ?_
  rintro e w1 ⟨a', c', rfl, hz', _, hs1, hS1⟩
  have HS1 := hid hS1
  clear hS1 hz'
  go_wp2_with fail
  refine (watched_any w1 a' n c' S hn HT.out HS1.out).mono ?_
  rintro e w2 ⟨⟨a3, c3, rfl, hL⟩, hs2⟩
  have HL := hid hL
  clear hL
  go_wp2
  go_ret
  exact ⟨⟨a3, c3, rfl, HL.out⟩, Since.step hs1 hs2⟩
end Go.Proofs.Qxb6600061a
