/-
  No cell of these rows narrows 'for every input' (looked for: loops, veiled, ifaces, maps, wideKeys, modest, calm, conditions, laid).
  DERIVED. THE GIVEN ROWS OF THIS SEAT. 7 by the template 'for every input the law returns true; each argument reads behind the call as it read before'; 0 by the template 'total and deterministic' (their statements: Qxb6600061aTotals.lean).
  GIVEN WITH THE SEED: the statements are not yours to turn. If you find one false, say at which input.
  Laid BY PROGRAM, IN A SANDBOX (cutbox-rows.mjs): the forced cells as the released guide's own fill.sh prints them over the translation cbf24726ac6d0d20… (all of the seat's roots in one cut). By AI agents, Wed Nov 11 2026. No macro, syntax, notation, axiom, sorry.
-/
import Derived.Test.Qxb6600061aChecked
import GoSem.Claim
import GoSem.ClaimJoined
import GoSem.ClaimMapViews
import Derived.JoinedTies
import Derived.KernelRfl
namespace Go.Proofs.Qxb6600061a
/- THE CELL 'sum', in the pinned program and in every row, IS THE sha256 OF THE DUMP (.gsa) THAT Qxb6600061aProg.lean LOADS. Nothing in Lean hashes anything: it is a label: what it is worth is what the hold of that sum in a sandbox is worth. -/
noncomputable def Try.pinned : Pinned := { name := "qxb6600061a", sum := "cbf24726ac6d0d20b182c4209a36584bc9e9621859ef8a500cc6b85877b9302e", checked := Try.checked }
namespace Rows
def none {H : Type} : Left H := { results := [], args := [] }

/-- 'zzlaws_root_b1.FnLookedMatchesModel': WHATEVER THE INPUT: true; the input reads as it did. -/
def fnLookedMatchesModelSpec : ChangeSpec := { name := "fnLookedMatchesModel", fn := fun _ => fun
  | [d1, d2, d3] => { results := [.lit (.bool true)], args := [d1, d2, d3] }
  | _ => none }
def fnLookedMatchesModelRow : OpenClaim := { program := "qxb6600061a", sum := "cbf24726ac6d0d20b182c4209a36584bc9e9621859ef8a500cc6b85877b9302e", func := "example.com/tidy-outbox/tidy-outbox/zzlaws_root_b1.FnLookedMatchesModel", spec := "fnLookedMatchesModel", unfollowed := true, recurses := true, apart := false }
def FnLookedMatchesModelSaid : Prop := fnLookedMatchesModelRow.holds Try.pinned (OpenSpec.ofChange fnLookedMatchesModelSpec)

/-- ITS FALSE NEIGHBOUR: 'it returns false'. Refute it at one input. -/
def fnLookedMatchesModelWrong : ChangeSpec := { name := "fnLookedMatchesModel", fn := fun _ => fun
  | [d1, d2, d3] => { results := [.lit (.bool false)], args := [d1, d2, d3] }
  | _ => none }
def FnLookedMatchesModelWrongFalsely : Prop := fnLookedMatchesModelRow.holds Try.pinned (OpenSpec.ofChange fnLookedMatchesModelWrong)

/-- 'zzlaws_root_b1.FnLookedIdempotent': WHATEVER THE INPUT: true; the input reads as it did. -/
def fnLookedIdempotentSpec : ChangeSpec := { name := "fnLookedIdempotent", fn := fun _ => fun
  | [d1, d2, d3] => { results := [.lit (.bool true)], args := [d1, d2, d3] }
  | _ => none }
def fnLookedIdempotentRow : OpenClaim := { program := "qxb6600061a", sum := "cbf24726ac6d0d20b182c4209a36584bc9e9621859ef8a500cc6b85877b9302e", func := "example.com/tidy-outbox/tidy-outbox/zzlaws_root_b1.FnLookedIdempotent", spec := "fnLookedIdempotent", unfollowed := true, recurses := true, apart := false }
def FnLookedIdempotentSaid : Prop := fnLookedIdempotentRow.holds Try.pinned (OpenSpec.ofChange fnLookedIdempotentSpec)

/-- ITS FALSE NEIGHBOUR: 'it returns false'. Refute it at one input. -/
def fnLookedIdempotentWrong : ChangeSpec := { name := "fnLookedIdempotent", fn := fun _ => fun
  | [d1, d2, d3] => { results := [.lit (.bool false)], args := [d1, d2, d3] }
  | _ => none }
def FnLookedIdempotentWrongFalsely : Prop := fnLookedIdempotentRow.holds Try.pinned (OpenSpec.ofChange fnLookedIdempotentWrong)

/-- 'zzlaws_root_b1.FnLookedSplitsOverConcatenation': WHATEVER THE INPUT: true; the input reads as it did. -/
def fnLookedSplitsOverConcatenationSpec : ChangeSpec := { name := "fnLookedSplitsOverConcatenation", fn := fun _ => fun
  | [d1, d2, d3, d4] => { results := [.lit (.bool true)], args := [d1, d2, d3, d4] }
  | _ => none }
def fnLookedSplitsOverConcatenationRow : OpenClaim := { program := "qxb6600061a", sum := "cbf24726ac6d0d20b182c4209a36584bc9e9621859ef8a500cc6b85877b9302e", func := "example.com/tidy-outbox/tidy-outbox/zzlaws_root_b1.FnLookedSplitsOverConcatenation", spec := "fnLookedSplitsOverConcatenation", unfollowed := true, recurses := true, apart := false }
def FnLookedSplitsOverConcatenationSaid : Prop := fnLookedSplitsOverConcatenationRow.holds Try.pinned (OpenSpec.ofChange fnLookedSplitsOverConcatenationSpec)

/-- ITS FALSE NEIGHBOUR: 'it returns false'. Refute it at one input. -/
def fnLookedSplitsOverConcatenationWrong : ChangeSpec := { name := "fnLookedSplitsOverConcatenation", fn := fun _ => fun
  | [d1, d2, d3, d4] => { results := [.lit (.bool false)], args := [d1, d2, d3, d4] }
  | _ => none }
def FnLookedSplitsOverConcatenationWrongFalsely : Prop := fnLookedSplitsOverConcatenationRow.holds Try.pinned (OpenSpec.ofChange fnLookedSplitsOverConcatenationWrong)

/-- 'zzlaws_root_b1.FnWatchedSplitsOverConcatenation': WHATEVER THE INPUT: true; the input reads as it did. -/
def fnWatchedSplitsOverConcatenationSpec : ChangeSpec := { name := "fnWatchedSplitsOverConcatenation", fn := fun _ => fun
  | [d1, d2] => { results := [.lit (.bool true)], args := [d1, d2] }
  | _ => none }
def fnWatchedSplitsOverConcatenationRow : OpenClaim := { program := "qxb6600061a", sum := "cbf24726ac6d0d20b182c4209a36584bc9e9621859ef8a500cc6b85877b9302e", func := "example.com/tidy-outbox/tidy-outbox/zzlaws_root_b1.FnWatchedSplitsOverConcatenation", spec := "fnWatchedSplitsOverConcatenation", apart := false }
def FnWatchedSplitsOverConcatenationSaid : Prop := fnWatchedSplitsOverConcatenationRow.holds Try.pinned (OpenSpec.ofChange fnWatchedSplitsOverConcatenationSpec)

/-- ITS FALSE NEIGHBOUR: 'it returns false'. Refute it at one input. -/
def fnWatchedSplitsOverConcatenationWrong : ChangeSpec := { name := "fnWatchedSplitsOverConcatenation", fn := fun _ => fun
  | [d1, d2] => { results := [.lit (.bool false)], args := [d1, d2] }
  | _ => none }
def FnWatchedSplitsOverConcatenationWrongFalsely : Prop := fnWatchedSplitsOverConcatenationRow.holds Try.pinned (OpenSpec.ofChange fnWatchedSplitsOverConcatenationWrong)

/-- 'zzlaws_root_b1.FnWatchedAfterPublishing': WHATEVER THE INPUT: true; the input reads as it did. -/
def fnWatchedAfterPublishingSpec : ChangeSpec := { name := "fnWatchedAfterPublishing", fn := fun _ => fun
  | [d1, d2] => { results := [.lit (.bool true)], args := [d1, d2] }
  | _ => none }
def fnWatchedAfterPublishingRow : OpenClaim := { program := "qxb6600061a", sum := "cbf24726ac6d0d20b182c4209a36584bc9e9621859ef8a500cc6b85877b9302e", func := "example.com/tidy-outbox/tidy-outbox/zzlaws_root_b1.FnWatchedAfterPublishing", spec := "fnWatchedAfterPublishing", unfollowed := true, recurses := true, apart := false }
def FnWatchedAfterPublishingSaid : Prop := fnWatchedAfterPublishingRow.holds Try.pinned (OpenSpec.ofChange fnWatchedAfterPublishingSpec)

/-- ITS FALSE NEIGHBOUR: 'it returns false'. Refute it at one input. -/
def fnWatchedAfterPublishingWrong : ChangeSpec := { name := "fnWatchedAfterPublishing", fn := fun _ => fun
  | [d1, d2] => { results := [.lit (.bool false)], args := [d1, d2] }
  | _ => none }
def FnWatchedAfterPublishingWrongFalsely : Prop := fnWatchedAfterPublishingRow.holds Try.pinned (OpenSpec.ofChange fnWatchedAfterPublishingWrong)

/-- 'zzlaws_root_b1.FnHoldsBackMonotoneInHeld': WHATEVER THE INPUT: true; the input reads as it did. -/
def fnHoldsBackMonotoneInHeldSpec : ChangeSpec := { name := "fnHoldsBackMonotoneInHeld", fn := fun _ => fun
  | [d1, d2, d3, d4] => { results := [.lit (.bool true)], args := [d1, d2, d3, d4] }
  | _ => none }
def fnHoldsBackMonotoneInHeldRow : OpenClaim := { program := "qxb6600061a", sum := "cbf24726ac6d0d20b182c4209a36584bc9e9621859ef8a500cc6b85877b9302e", func := "example.com/tidy-outbox/tidy-outbox/zzlaws_root_b1.FnHoldsBackMonotoneInHeld", spec := "fnHoldsBackMonotoneInHeld", apart := false }
def FnHoldsBackMonotoneInHeldSaid : Prop := fnHoldsBackMonotoneInHeldRow.holds Try.pinned (OpenSpec.ofChange fnHoldsBackMonotoneInHeldSpec)

/-- ITS FALSE NEIGHBOUR: 'it returns false'. Refute it at one input. -/
def fnHoldsBackMonotoneInHeldWrong : ChangeSpec := { name := "fnHoldsBackMonotoneInHeld", fn := fun _ => fun
  | [d1, d2, d3, d4] => { results := [.lit (.bool false)], args := [d1, d2, d3, d4] }
  | _ => none }
def FnHoldsBackMonotoneInHeldWrongFalsely : Prop := fnHoldsBackMonotoneInHeldRow.holds Try.pinned (OpenSpec.ofChange fnHoldsBackMonotoneInHeldWrong)

/-- 'zzlaws_root_b1.FnHoldsBackOverUnion': WHATEVER THE INPUT: true; the input reads as it did. -/
def fnHoldsBackOverUnionSpec : ChangeSpec := { name := "fnHoldsBackOverUnion", fn := fun _ => fun
  | [d1, d2, d3, d4] => { results := [.lit (.bool true)], args := [d1, d2, d3, d4] }
  | _ => none }
def fnHoldsBackOverUnionRow : OpenClaim := { program := "qxb6600061a", sum := "cbf24726ac6d0d20b182c4209a36584bc9e9621859ef8a500cc6b85877b9302e", func := "example.com/tidy-outbox/tidy-outbox/zzlaws_root_b1.FnHoldsBackOverUnion", spec := "fnHoldsBackOverUnion", apart := false }
def FnHoldsBackOverUnionSaid : Prop := fnHoldsBackOverUnionRow.holds Try.pinned (OpenSpec.ofChange fnHoldsBackOverUnionSpec)

/-- ITS FALSE NEIGHBOUR: 'it returns false'. Refute it at one input. -/
def fnHoldsBackOverUnionWrong : ChangeSpec := { name := "fnHoldsBackOverUnion", fn := fun _ => fun
  | [d1, d2, d3, d4] => { results := [.lit (.bool false)], args := [d1, d2, d3, d4] }
  | _ => none }
def FnHoldsBackOverUnionWrongFalsely : Prop := fnHoldsBackOverUnionRow.holds Try.pinned (OpenSpec.ofChange fnHoldsBackOverUnionWrong)

end Rows
end Go.Proofs.Qxb6600061a
