/-
  No cell of these rows narrows 'for every input' (looked for: loops, veiled, ifaces, maps, wideKeys, modest, calm, conditions, laid).
  DERIVED. THE GIVEN ROWS OF THIS SEAT. 5 by the template 'for every input the law returns true; each argument reads behind the call as it read before'; 0 by the template 'total and deterministic' (their statements: Qxb6600184aTotals.lean).
  GIVEN WITH THE SEED: the statements are not yours to turn. If you find one false, say at which input.
  Laid BY PROGRAM, IN A SANDBOX (cutbox-rows.mjs): the forced cells as the released guide's own fill.sh prints them over the translation 04c65fb448090027… (all of the seat's roots in one cut). By AI agents, Wed Nov 11 2026. No macro, syntax, notation, axiom, sorry.
-/
import Derived.Test.Qxb6600184aChecked
import GoSem.Claim
import GoSem.ClaimJoined
import GoSem.ClaimMapViews
import Derived.JoinedTies
import Derived.KernelRfl
namespace Go.Proofs.Qxb6600184a
/- THE CELL 'sum', in the pinned program and in every row, IS THE sha256 OF THE DUMP (.gsa) THAT Qxb6600184aProg.lean LOADS. Nothing in Lean hashes anything: it is a label: what it is worth is what the hold of that sum in a sandbox is worth. -/
noncomputable def Try.pinned : Pinned := { name := "qxb6600184a", sum := "04c65fb448090027f42ac07cdcfa942212ea6ba74d7e73e5a2685db120549079", checked := Try.checked }
namespace Rows
def none {H : Type} : Left H := { results := [], args := [] }

/-- 'zzlaws_resolver_b1.FnByLockGroupsByFirstWaiter': WHATEVER THE INPUT: true; the input reads as it did. -/
def fnByLockGroupsByFirstWaiterSpec : ChangeSpec := { name := "fnByLockGroupsByFirstWaiter", fn := fun _ => fun
  | [d1, d2, d3, d4] => { results := [.lit (.bool true)], args := [d1, d2, d3, d4] }
  | _ => none }
def fnByLockGroupsByFirstWaiterRow : OpenClaim := { program := "qxb6600184a", sum := "04c65fb448090027f42ac07cdcfa942212ea6ba74d7e73e5a2685db120549079", func := "example.com/knotcutter/knotcutter/zzlaws_resolver_b1.FnByLockGroupsByFirstWaiter", spec := "fnByLockGroupsByFirstWaiter", apart := false }
def FnByLockGroupsByFirstWaiterSaid : Prop := fnByLockGroupsByFirstWaiterRow.holds Try.pinned (OpenSpec.ofChange fnByLockGroupsByFirstWaiterSpec)

/-- ITS FALSE NEIGHBOUR: 'it returns false'. Refute it at one input. -/
def fnByLockGroupsByFirstWaiterWrong : ChangeSpec := { name := "fnByLockGroupsByFirstWaiter", fn := fun _ => fun
  | [d1, d2, d3, d4] => { results := [.lit (.bool false)], args := [d1, d2, d3, d4] }
  | _ => none }
def FnByLockGroupsByFirstWaiterWrongFalsely : Prop := fnByLockGroupsByFirstWaiterRow.holds Try.pinned (OpenSpec.ofChange fnByLockGroupsByFirstWaiterWrong)

/-- 'zzlaws_resolver_b1.FnByLockReuseAgreesWithFresh': WHATEVER THE INPUT: true; the input reads as it did. -/
def fnByLockReuseAgreesWithFreshSpec : ChangeSpec := { name := "fnByLockReuseAgreesWithFresh", fn := fun _ => fun
  | [d1, d2, d3, d4, d5, d6, d7, d8] => { results := [.lit (.bool true)], args := [d1, d2, d3, d4, d5, d6, d7, d8] }
  | _ => none }
def fnByLockReuseAgreesWithFreshRow : OpenClaim := { program := "qxb6600184a", sum := "04c65fb448090027f42ac07cdcfa942212ea6ba74d7e73e5a2685db120549079", func := "example.com/knotcutter/knotcutter/zzlaws_resolver_b1.FnByLockReuseAgreesWithFresh", spec := "fnByLockReuseAgreesWithFresh", apart := false }
def FnByLockReuseAgreesWithFreshSaid : Prop := fnByLockReuseAgreesWithFreshRow.holds Try.pinned (OpenSpec.ofChange fnByLockReuseAgreesWithFreshSpec)

/-- ITS FALSE NEIGHBOUR: 'it returns false'. Refute it at one input. -/
def fnByLockReuseAgreesWithFreshWrong : ChangeSpec := { name := "fnByLockReuseAgreesWithFresh", fn := fun _ => fun
  | [d1, d2, d3, d4, d5, d6, d7, d8] => { results := [.lit (.bool false)], args := [d1, d2, d3, d4, d5, d6, d7, d8] }
  | _ => none }
def FnByLockReuseAgreesWithFreshWrongFalsely : Prop := fnByLockReuseAgreesWithFreshRow.holds Try.pinned (OpenSpec.ofChange fnByLockReuseAgreesWithFreshWrong)

/-- 'zzlaws_resolver_b1.FnLaddersHubPerRunOfJoinTimes': WHATEVER THE INPUT: true; the input reads as it did. -/
def fnLaddersHubPerRunOfJoinTimesSpec : ChangeSpec := { name := "fnLaddersHubPerRunOfJoinTimes", fn := fun _ => fun
  | [d1, d2, d3, d4, d5] => { results := [.lit (.bool true)], args := [d1, d2, d3, d4, d5] }
  | _ => none }
def fnLaddersHubPerRunOfJoinTimesRow : OpenClaim := { program := "qxb6600184a", sum := "04c65fb448090027f42ac07cdcfa942212ea6ba74d7e73e5a2685db120549079", func := "example.com/knotcutter/knotcutter/zzlaws_resolver_b1.FnLaddersHubPerRunOfJoinTimes", spec := "fnLaddersHubPerRunOfJoinTimes", apart := false }
def FnLaddersHubPerRunOfJoinTimesSaid : Prop := fnLaddersHubPerRunOfJoinTimesRow.holds Try.pinned (OpenSpec.ofChange fnLaddersHubPerRunOfJoinTimesSpec)

/-- ITS FALSE NEIGHBOUR: 'it returns false'. Refute it at one input. -/
def fnLaddersHubPerRunOfJoinTimesWrong : ChangeSpec := { name := "fnLaddersHubPerRunOfJoinTimes", fn := fun _ => fun
  | [d1, d2, d3, d4, d5] => { results := [.lit (.bool false)], args := [d1, d2, d3, d4, d5] }
  | _ => none }
def FnLaddersHubPerRunOfJoinTimesWrongFalsely : Prop := fnLaddersHubPerRunOfJoinTimesRow.holds Try.pinned (OpenSpec.ofChange fnLaddersHubPerRunOfJoinTimesWrong)

/-- 'zzlaws_resolver_b1.FnLaddersShape': WHATEVER THE INPUT: true; the input reads as it did. -/
def fnLaddersShapeSpec : ChangeSpec := { name := "fnLaddersShape", fn := fun _ => fun
  | [d1, d2, d3, d4, d5] => { results := [.lit (.bool true)], args := [d1, d2, d3, d4, d5] }
  | _ => none }
def fnLaddersShapeRow : OpenClaim := { program := "qxb6600184a", sum := "04c65fb448090027f42ac07cdcfa942212ea6ba74d7e73e5a2685db120549079", func := "example.com/knotcutter/knotcutter/zzlaws_resolver_b1.FnLaddersShape", spec := "fnLaddersShape", apart := false }
def FnLaddersShapeSaid : Prop := fnLaddersShapeRow.holds Try.pinned (OpenSpec.ofChange fnLaddersShapeSpec)

/-- ITS FALSE NEIGHBOUR: 'it returns false'. Refute it at one input. -/
def fnLaddersShapeWrong : ChangeSpec := { name := "fnLaddersShape", fn := fun _ => fun
  | [d1, d2, d3, d4, d5] => { results := [.lit (.bool false)], args := [d1, d2, d3, d4, d5] }
  | _ => none }
def FnLaddersShapeWrongFalsely : Prop := fnLaddersShapeRow.holds Try.pinned (OpenSpec.ofChange fnLaddersShapeWrong)

/-- 'zzlaws_resolver_b1.FnLaddersHangOnTheSetOfMembersAndGrowWithIt': WHATEVER THE INPUT: true; the input reads as it did. -/
def fnLaddersHangOnTheSetOfMembersAndGrowWithItSpec : ChangeSpec := { name := "fnLaddersHangOnTheSetOfMembersAndGrowWithIt", fn := fun _ => fun
  | [d1, d2, d3, d4, d5, d6] => { results := [.lit (.bool true)], args := [d1, d2, d3, d4, d5, d6] }
  | _ => none }
def fnLaddersHangOnTheSetOfMembersAndGrowWithItRow : OpenClaim := { program := "qxb6600184a", sum := "04c65fb448090027f42ac07cdcfa942212ea6ba74d7e73e5a2685db120549079", func := "example.com/knotcutter/knotcutter/zzlaws_resolver_b1.FnLaddersHangOnTheSetOfMembersAndGrowWithIt", spec := "fnLaddersHangOnTheSetOfMembersAndGrowWithIt", apart := false }
def FnLaddersHangOnTheSetOfMembersAndGrowWithItSaid : Prop := fnLaddersHangOnTheSetOfMembersAndGrowWithItRow.holds Try.pinned (OpenSpec.ofChange fnLaddersHangOnTheSetOfMembersAndGrowWithItSpec)

/-- ITS FALSE NEIGHBOUR: 'it returns false'. Refute it at one input. -/
def fnLaddersHangOnTheSetOfMembersAndGrowWithItWrong : ChangeSpec := { name := "fnLaddersHangOnTheSetOfMembersAndGrowWithIt", fn := fun _ => fun
  | [d1, d2, d3, d4, d5, d6] => { results := [.lit (.bool false)], args := [d1, d2, d3, d4, d5, d6] }
  | _ => none }
def FnLaddersHangOnTheSetOfMembersAndGrowWithItWrongFalsely : Prop := fnLaddersHangOnTheSetOfMembersAndGrowWithItRow.holds Try.pinned (OpenSpec.ofChange fnLaddersHangOnTheSetOfMembersAndGrowWithItWrong)

end Rows
end Go.Proofs.Qxb6600184a
