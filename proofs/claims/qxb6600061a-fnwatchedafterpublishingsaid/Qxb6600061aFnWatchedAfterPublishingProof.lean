/-
  FnWatchedAfterPublishing: the row out of the walk. The frame is after the given shells' (howto/shells).
-/
import Derived.Test.Qxb6600061aRows
import Derived.Test.Qxb6600061aWaWalk
import Derived.Test.Qxb6600061aOpen
import Derived.WalkKit
import Derived.ProofKit
import Derived.OpenShut
import Derived.ShutString
import Derived.ChangeOld
import Derived.Below
namespace Go.Proofs.Qxb6600061a.fnWatchedAfterPublishing
open Go.ChangeShapes Go.WideShapes Go.ChangeAt Go.RowKit
open Go.ChangeMaps (open_string shut_string)
set_option linter.unusedVariables false

theorem own : ownKnob Try.prog.godebug = none := by kernel_rfl
theorem laidOut : laidOutB Try.prog = true := by kernel_rfl

/-- A slice of integers that came in: nil, or a row of 'cap' cells. -/
def IsRow (k : IntKind) (w : World) (a : Option Addr) (len cap : Nat) (zs : List Int) : Prop :=
  (a = none ∧ len = 0 ∧ cap = 0 ∧ zs = []) ∨
  ∃ x, a = some x ∧ len ≤ cap ∧ cap ≤ maxLen ∧ zs.length = cap ∧ (∀ i, i < zs.length → w.cell? (x.add i) = some (.int k (zs.getD i 0))) ∧ ∀ n ∈ zs, (Lit.int k n).wf = true

theorem rowOpen {w : World} {a : Option Addr} {len cap : Nat} {zs : List Int} (h : IsRow .i64 w a len cap zs) : len ≤ maxLen ∧ (a = none → len = 0 ∧ cap = 0) ∧ IsInts w a len (fun i => zs.getD i 0) ∧ ∀ i, i < len → Ok64 (zs.getD i 0) := by
  rcases h with ⟨rfl, rfl, rfl, rfl⟩ | ⟨x, rfl, hl, hm, hz, hc, hw⟩
  · exact ⟨Nat.zero_le _, fun _ => ⟨rfl, rfl⟩, (fun h => absurd h (by omega)), fun i hi => absurd hi (by omega)⟩
  · refine ⟨Nat.le_trans hl hm, (fun h => by cases h), fun hn => ?_, fun i hi => ?_⟩
    · obtain ⟨b, off, spot⟩ := x
      have h0 := hc 0 (by omega)
      have hspot : spot = none := by simpa [Addr.add] using World.cell?_spot h0
      subst hspot
      refine ⟨b, off, rfl, ?_, fun i hi => ?_⟩
      · have := World.block_lt_of_cell? _ _ h0; simpa [Addr.add] using this
      · have := hc i (by omega); rwa [Addr.add_mid] at this
    · have e : zs.getD i 0 = zs[i]'(by omega) := by simp [List.getD, show i < zs.length by omega]
      rw [e]
      exact hw _ (List.getElem_mem _)

theorem walk (a0 : Option Addr) (len0 cap0 : Nat) (S0 : Nat → Sp) (a1 : Option Addr) (len1 cap1 : Nat) (z1 : List Int) (w : World) (m0 : len0 ≤ maxLen) (z0 : a0 = none → len0 = 0 ∧ cap0 = 0) (s0 : IsSps4 w a0 len0 S0) (o0 : ∀ i, i < len0 → (S0 i).wl.length ≤ maxLen ∧ ∀ y ∈ (S0 i).wl, Ok64 y) (w1 : IsRow .i64 w a1 len1 cap1 z1) :
    Calls Try.prog 7 #[.slice a0 len0 cap0, .slice a1 len1 cap1] w fun e w' => e = .returned (.bool true) ∧ w.Since w.heap.size w' := by
  obtain ⟨m1, e1, h1, ok1⟩ := rowOpen w1
  exact wap_walk w a0 a1 len0 cap0 len1 cap1 S0 _ m0 m1 z0 e1 s0 (fun i hi => (o0 i hi).1) (fun i hi => (o0 i hi).2) h1 ok1

set_option maxRecDepth 100000 in
theorem lifted (os : Os) (started : os.Started) (H : Type) (enc : TypeId × Value → H) :
    ReturnsInHanded {} Try.checked os 7 .any (Rows.fnWatchedAfterPublishingSpec.pre6 enc Try.prog Try.f7 Rows.fnWatchedAfterPublishingRow.domain false) (Rows.fnWatchedAfterPublishingSpec.post enc Try.prog Try.f7 false true false false) := by
  refine returnsInHanded_of_change (C := Try.checked) own started (by kernel_rfl) Try.func7
    (ChangeSpec.witness6 (enc := enc) (C := Try.checked) false ⟨#[], #[.slice none 0 0, .slice none 0 0], []⟩ 8 (by kernel_rfl) (by kernel_rfl) (by kernel_rfl) (by kernel_rfl)) ?_
  intro W base args ds gs before hval0 hW hcnd _
  have hval : ∀ (j : Nat) t v, Try.f7.params[j]? = some t → args[j]? = some v → Value.okWide Try.prog W .any base t v := hval0
  have hW' := hW
  obtain ⟨p, q, hA0, hV, rfl, hfz, hnd⟩ := hW
  have hA : DataW.TrodAll enc Try.prog W 0 (fun _ => true) true Try.f7.params.toList args.toList ds p := hA0
  rw [Try.params7] at hA hval
  obtain ⟨v0, vs0, d0, ds0, p0, q0, hargs, rfl, rfl, h0, r0⟩ := trodAll_cons hA
  obtain ⟨v1, vs1, d1, ds1, p1, q1, rfl, rfl, rfl, h1, r1⟩ := trodAll_cons r0
  obtain ⟨rfl, rfl, rfl⟩ := trodAll_nil r1
  obtain rfl : args = #[v0, v1] := by cases args; simp_all
  obtain ⟨rfl, rfl⟩ := trodVars_none hV
  obtain ⟨a0, len0, cap0, rfl⟩ := okWide_slice Try.underlying22 (hval 0 22 v0 rfl rfl)
  have k0 := h0
  have lt0 : ∀ x ∈ p0, x.block < W.heap.size := by obtain ⟨m, hm⟩ := k0; exact DataW.trod_lt m _ _ _ hm
  obtain ⟨m0, z0, S0, s0, o0⟩ : len0 ≤ maxLen ∧ (a0 = none → len0 = 0 ∧ cap0 = 0) ∧ ∃ S : Nat → Sp, IsSps4 W a0 len0 S ∧ ∀ i, i < len0 → (S i).wl.length ≤ maxLen ∧ ∀ y ∈ (S i).wl, Ok64 y := by
    obtain ⟨fuel, hf⟩ := h0
    exact open_spans (by simpa [Value.cells] using hf)
  obtain ⟨a1, len1, cap1, rfl⟩ := okWide_slice Try.underlying23 (hval 1 23 v1 rfl rfl)
  have k1 := h1
  have lt1 : ∀ x ∈ p1, x.block < W.heap.size := by obtain ⟨m, hm⟩ := k1; exact DataW.trod_lt m _ _ _ hm
  obtain ⟨z1, w1⟩ : ∃ zs, IsRow .i64 W a1 len1 cap1 zs := by
    obtain ⟨fuel, hf⟩ := h1
    rcases open_ints Try.underlying23 Try.underlying2 (by kernel_rfl) hf with ⟨hcs, _⟩ | ⟨x, l, c, zs, hcs, _, hl, hm, hz, _, hcell, hwz⟩
    · simp [Value.cells] at hcs
      obtain ⟨rfl, rfl, rfl⟩ := hcs
      exact ⟨[], .inl ⟨rfl, rfl, rfl, rfl⟩⟩
    · simp [Value.cells] at hcs
      obtain ⟨rfl, rfl, rfl⟩ := hcs
      exact ⟨zs, .inr ⟨_, rfl, hl, hm, by simpa using hz, hcell, hwz⟩⟩
  clear hA0 hval0
  refine (walk a0 len0 cap0 S0 a1 len1 cap1 z1 W m0 z0 s0 o0 w1).mono fun e W' ⟨he, bel'⟩ => ?_
  have bel := Since.below bel'
  subst he
  exact ⟨_, rfl, _, _, _, [], _, [], hW', trodAll_mk1 (shut_bool Try.underlying4 _), (trodAll_cons_mk (Below.trod laidOut (by kernel_rfl) (of_decide_eq_true (by kernel_rfl)) k0 bel lt0) (trodAll_cons_mk (Below.trod laidOut (by kernel_rfl) (of_decide_eq_true (by kernel_rfl)) k1 bel lt1) trodAll_mk0)), rfl, bel.frame _, fun h => by cases h⟩

theorem over : Rows.fnWatchedAfterPublishingRow.holds Try.pinned (OpenSpec.ofChange Rows.fnWatchedAfterPublishingSpec) :=
  OpenClaim.holds_of_wide 7 Try.f7 rfl rfl rfl rfl rfl rfl rfl ⟨rfl, rfl, rfl, rfl, rfl⟩ rfl rfl rfl rfl rfl (by kernel_rfl) Try.func7 (by kernel_rfl)
    (of_decide_eq_true (by kernel_rfl)) (by unfold Func.isWrapper; first | (rw [if_pos (by decide +kernel)]; kernel_rfl) | (rw [if_neg (by decide +kernel)]; exact ⟨rfl, rfl⟩))
    (fun os started H enc _ => lifted os started H enc)

/-- THE STATEMENT -/
theorem proved : Rows.FnWatchedAfterPublishingSaid := over
#print axioms proved
end Go.Proofs.Qxb6600061a.fnWatchedAfterPublishing
