/-
  No cell of these rows narrows 'for every input' (looked for: loops, veiled, ifaces, maps, wideKeys, modest, calm, conditions, laid).
  DERIVED. THE GIVEN ROWS OF THIS SEAT. 6 by the template 'for every input the law returns true; each argument reads behind the call as it read before'; 0 by the template 'total and deterministic' (their statements: Qxb6600039aTotals.lean).
  GIVEN WITH THE SEED: the statements are not yours to turn. If you find one false, say at which input.
  Laid BY PROGRAM, IN A SANDBOX (cutbox-rows.mjs): the forced cells as the released guide's own fill.sh prints them over the translation 07bb5f670aa7866d… (all of the seat's roots in one cut). By AI agents, Wed Nov 11 2026. No macro, syntax, notation, axiom, sorry.
-/
import Derived.Test.Qxb6600039aChecked
import GoSem.Claim
import GoSem.ClaimJoined
import GoSem.ClaimMapViews
import Derived.JoinedTies
import Derived.KernelRfl
namespace Go.Proofs.Qxb6600039a
/- THE CELL 'sum', in the pinned program and in every row, IS THE sha256 OF THE DUMP (.gsa) THAT Qxb6600039aProg.lean LOADS. Nothing in Lean hashes anything: it is a label: what it is worth is what the hold of that sum in a sandbox is worth. -/
noncomputable def Try.pinned : Pinned := { name := "qxb6600039a", sum := "07bb5f670aa7866dd25d39298ff5ffbebdc027a09143828ecd5eb99358dc4a68", checked := Try.checked }
namespace Rows
def none {H : Type} : Left H := { results := [], args := [] }

/-- 'zzlaws_internal_jsonscan_b1.FnQuotedReadsBackEncodedString': WHATEVER THE INPUT: true; the input reads as it did. -/
def fnQuotedReadsBackEncodedStringSpec : ChangeSpec := { name := "fnQuotedReadsBackEncodedString", fn := fun _ => fun
  | [d1, d2] => { results := [.lit (.bool true)], args := [d1, d2] }
  | _ => none }
def fnQuotedReadsBackEncodedStringRow : OpenClaim := { program := "qxb6600039a", sum := "07bb5f670aa7866dd25d39298ff5ffbebdc027a09143828ecd5eb99358dc4a68", func := "example.com/vetter/vetter/zzlaws_internal_jsonscan_b1.FnQuotedReadsBackEncodedString", spec := "fnQuotedReadsBackEncodedString", apart := false }
def FnQuotedReadsBackEncodedStringSaid : Prop := fnQuotedReadsBackEncodedStringRow.holds Try.pinned (OpenSpec.ofChange fnQuotedReadsBackEncodedStringSpec)

/-- ITS FALSE NEIGHBOUR: 'it returns false'. Refute it at one input. -/
def fnQuotedReadsBackEncodedStringWrong : ChangeSpec := { name := "fnQuotedReadsBackEncodedString", fn := fun _ => fun
  | [d1, d2] => { results := [.lit (.bool false)], args := [d1, d2] }
  | _ => none }
def FnQuotedReadsBackEncodedStringWrongFalsely : Prop := fnQuotedReadsBackEncodedStringRow.holds Try.pinned (OpenSpec.ofChange fnQuotedReadsBackEncodedStringWrong)

/-- 'zzlaws_internal_jsonscan_b1.FnQuotedRefusesBrokenString': WHATEVER THE INPUT: true; the input reads as it did. -/
def fnQuotedRefusesBrokenStringSpec : ChangeSpec := { name := "fnQuotedRefusesBrokenString", fn := fun _ => fun
  | [d1, d2, d3, d4, d5, d6] => { results := [.lit (.bool true)], args := [d1, d2, d3, d4, d5, d6] }
  | _ => none }
def fnQuotedRefusesBrokenStringRow : OpenClaim := { program := "qxb6600039a", sum := "07bb5f670aa7866dd25d39298ff5ffbebdc027a09143828ecd5eb99358dc4a68", func := "example.com/vetter/vetter/zzlaws_internal_jsonscan_b1.FnQuotedRefusesBrokenString", spec := "fnQuotedRefusesBrokenString", apart := false }
def FnQuotedRefusesBrokenStringSaid : Prop := fnQuotedRefusesBrokenStringRow.holds Try.pinned (OpenSpec.ofChange fnQuotedRefusesBrokenStringSpec)

/-- ITS FALSE NEIGHBOUR: 'it returns false'. Refute it at one input. -/
def fnQuotedRefusesBrokenStringWrong : ChangeSpec := { name := "fnQuotedRefusesBrokenString", fn := fun _ => fun
  | [d1, d2, d3, d4, d5, d6] => { results := [.lit (.bool false)], args := [d1, d2, d3, d4, d5, d6] }
  | _ => none }
def FnQuotedRefusesBrokenStringWrongFalsely : Prop := fnQuotedRefusesBrokenStringRow.holds Try.pinned (OpenSpec.ofChange fnQuotedRefusesBrokenStringWrong)

/-- 'zzlaws_internal_jsonscan_b1.FnQuotedReadsOnlyItsSpan': WHATEVER THE INPUT: true; the input reads as it did. -/
def fnQuotedReadsOnlyItsSpanSpec : ChangeSpec := { name := "fnQuotedReadsOnlyItsSpan", fn := fun _ => fun
  | [d1, d2, d3] => { results := [.lit (.bool true)], args := [d1, d2, d3] }
  | _ => none }
def fnQuotedReadsOnlyItsSpanRow : OpenClaim := { program := "qxb6600039a", sum := "07bb5f670aa7866dd25d39298ff5ffbebdc027a09143828ecd5eb99358dc4a68", func := "example.com/vetter/vetter/zzlaws_internal_jsonscan_b1.FnQuotedReadsOnlyItsSpan", spec := "fnQuotedReadsOnlyItsSpan", apart := false }
def FnQuotedReadsOnlyItsSpanSaid : Prop := fnQuotedReadsOnlyItsSpanRow.holds Try.pinned (OpenSpec.ofChange fnQuotedReadsOnlyItsSpanSpec)

/-- ITS FALSE NEIGHBOUR: 'it returns false'. Refute it at one input. -/
def fnQuotedReadsOnlyItsSpanWrong : ChangeSpec := { name := "fnQuotedReadsOnlyItsSpan", fn := fun _ => fun
  | [d1, d2, d3] => { results := [.lit (.bool false)], args := [d1, d2, d3] }
  | _ => none }
def FnQuotedReadsOnlyItsSpanWrongFalsely : Prop := fnQuotedReadsOnlyItsSpanRow.holds Try.pinned (OpenSpec.ofChange fnQuotedReadsOnlyItsSpanWrong)

/-- 'zzlaws_internal_jsonscan_b1.FnNumberReadsComposedNumber': WHATEVER THE INPUT: true; the input reads as it did. -/
def fnNumberReadsComposedNumberSpec : ChangeSpec := { name := "fnNumberReadsComposedNumber", fn := fun _ => fun
  | [d1, d2, d3, d4, d5, d6, d7, d8, d9, d10] => { results := [.lit (.bool true)], args := [d1, d2, d3, d4, d5, d6, d7, d8, d9, d10] }
  | _ => none }
def fnNumberReadsComposedNumberRow : OpenClaim := { program := "qxb6600039a", sum := "07bb5f670aa7866dd25d39298ff5ffbebdc027a09143828ecd5eb99358dc4a68", func := "example.com/vetter/vetter/zzlaws_internal_jsonscan_b1.FnNumberReadsComposedNumber", spec := "fnNumberReadsComposedNumber", apart := false }
def FnNumberReadsComposedNumberSaid : Prop := fnNumberReadsComposedNumberRow.holds Try.pinned (OpenSpec.ofChange fnNumberReadsComposedNumberSpec)

/-- ITS FALSE NEIGHBOUR: 'it returns false'. Refute it at one input. -/
def fnNumberReadsComposedNumberWrong : ChangeSpec := { name := "fnNumberReadsComposedNumber", fn := fun _ => fun
  | [d1, d2, d3, d4, d5, d6, d7, d8, d9, d10] => { results := [.lit (.bool false)], args := [d1, d2, d3, d4, d5, d6, d7, d8, d9, d10] }
  | _ => none }
def FnNumberReadsComposedNumberWrongFalsely : Prop := fnNumberReadsComposedNumberRow.holds Try.pinned (OpenSpec.ofChange fnNumberReadsComposedNumberWrong)

/-- 'zzlaws_internal_jsonscan_b1.FnNumberRefusesDanglingPart': WHATEVER THE INPUT: true; the input reads as it did. -/
def fnNumberRefusesDanglingPartSpec : ChangeSpec := { name := "fnNumberRefusesDanglingPart", fn := fun _ => fun
  | [d1, d2, d3, d4, d5, d6, d7, d8] => { results := [.lit (.bool true)], args := [d1, d2, d3, d4, d5, d6, d7, d8] }
  | _ => none }
def fnNumberRefusesDanglingPartRow : OpenClaim := { program := "qxb6600039a", sum := "07bb5f670aa7866dd25d39298ff5ffbebdc027a09143828ecd5eb99358dc4a68", func := "example.com/vetter/vetter/zzlaws_internal_jsonscan_b1.FnNumberRefusesDanglingPart", spec := "fnNumberRefusesDanglingPart", apart := false }
def FnNumberRefusesDanglingPartSaid : Prop := fnNumberRefusesDanglingPartRow.holds Try.pinned (OpenSpec.ofChange fnNumberRefusesDanglingPartSpec)

/-- ITS FALSE NEIGHBOUR: 'it returns false'. Refute it at one input. -/
def fnNumberRefusesDanglingPartWrong : ChangeSpec := { name := "fnNumberRefusesDanglingPart", fn := fun _ => fun
  | [d1, d2, d3, d4, d5, d6, d7, d8] => { results := [.lit (.bool false)], args := [d1, d2, d3, d4, d5, d6, d7, d8] }
  | _ => none }
def FnNumberRefusesDanglingPartWrongFalsely : Prop := fnNumberRefusesDanglingPartRow.holds Try.pinned (OpenSpec.ofChange fnNumberRefusesDanglingPartWrong)

/-- 'zzlaws_internal_jsonscan_b1.FnNumberReadsOnlyItsSpan': WHATEVER THE INPUT: true; the input reads as it did. -/
def fnNumberReadsOnlyItsSpanSpec : ChangeSpec := { name := "fnNumberReadsOnlyItsSpan", fn := fun _ => fun
  | [d1, d2] => { results := [.lit (.bool true)], args := [d1, d2] }
  | _ => none }
def fnNumberReadsOnlyItsSpanRow : OpenClaim := { program := "qxb6600039a", sum := "07bb5f670aa7866dd25d39298ff5ffbebdc027a09143828ecd5eb99358dc4a68", func := "example.com/vetter/vetter/zzlaws_internal_jsonscan_b1.FnNumberReadsOnlyItsSpan", spec := "fnNumberReadsOnlyItsSpan", apart := false }
def FnNumberReadsOnlyItsSpanSaid : Prop := fnNumberReadsOnlyItsSpanRow.holds Try.pinned (OpenSpec.ofChange fnNumberReadsOnlyItsSpanSpec)

/-- ITS FALSE NEIGHBOUR: 'it returns false'. Refute it at one input. -/
def fnNumberReadsOnlyItsSpanWrong : ChangeSpec := { name := "fnNumberReadsOnlyItsSpan", fn := fun _ => fun
  | [d1, d2] => { results := [.lit (.bool false)], args := [d1, d2] }
  | _ => none }
def FnNumberReadsOnlyItsSpanWrongFalsely : Prop := fnNumberReadsOnlyItsSpanRow.holds Try.pinned (OpenSpec.ofChange fnNumberReadsOnlyItsSpanWrong)

end Rows
end Go.Proofs.Qxb6600039a
