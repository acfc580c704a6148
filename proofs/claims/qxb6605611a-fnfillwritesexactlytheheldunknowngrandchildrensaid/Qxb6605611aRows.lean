/-
  No cell of these rows narrows 'for every input' (looked for: loops, veiled, ifaces, maps, wideKeys, modest, calm, conditions, laid).
  DERIVED. THE GIVEN ROWS OF THIS SEAT. 5 by the template 'for every input the law returns true; each argument reads behind the call as it read before'; 0 by the template 'total and deterministic' (their statements: Qxb6605611aTotals.lean).
  GIVEN WITH THE SEED: the statements are not yours to turn. If you find one false, say at which input.
  Laid BY PROGRAM, IN A SANDBOX (cutbox-rows.mjs): the forced cells as the released guide's own fill.sh prints them over the translation d174666ed132570d… (all of the seat's roots in one cut). By AI agents, Wed Nov 11 2026. No macro, syntax, notation, axiom, sorry.
-/
import Derived.Test.Qxb6605611aChecked
import GoSem.Claim
import GoSem.ClaimJoined
import GoSem.ClaimMapViews
import Derived.JoinedTies
import Derived.KernelRfl
namespace Go.Proofs.Qxb6605611a
/- THE CELL 'sum', in the pinned program and in every row, IS THE sha256 OF THE DUMP (.gsa) THAT Qxb6605611aProg.lean LOADS. Nothing in Lean hashes anything: it is a label: what it is worth is what the hold of that sum in a sandbox is worth. -/
noncomputable def Try.pinned : Pinned := { name := "qxb6605611a", sum := "d174666ed132570d9cf832a3a86122459224ef82de266d45d1d920269230c8fa", checked := Try.checked }
namespace Rows
def none {H : Type} : Left H := { results := [], args := [] }

/-- 'zzlaws_internal_layout_b1.FnReadTypeValueUnderSchemaCodingNoTypes': WHATEVER THE INPUT: true; the input reads as it did. -/
def fnReadTypeValueUnderSchemaCodingNoTypesSpec : ChangeSpec := { name := "fnReadTypeValueUnderSchemaCodingNoTypes", fn := fun _ => fun
  | [d1, d2, d3, d4] => { results := [.lit (.bool true)], args := [d1, d2, d3, d4] }
  | _ => none }
def fnReadTypeValueUnderSchemaCodingNoTypesRow : OpenClaim := { program := "qxb6605611a", sum := "d174666ed132570d9cf832a3a86122459224ef82de266d45d1d920269230c8fa", func := "example.com/pergola/pergola/zzlaws_internal_layout_b1.FnReadTypeValueUnderSchemaCodingNoTypes", spec := "fnReadTypeValueUnderSchemaCodingNoTypes", apart := false }
def FnReadTypeValueUnderSchemaCodingNoTypesSaid : Prop := fnReadTypeValueUnderSchemaCodingNoTypesRow.holds Try.pinned (OpenSpec.ofChange fnReadTypeValueUnderSchemaCodingNoTypesSpec)

/-- ITS FALSE NEIGHBOUR: 'it returns false'. Refute it at one input. -/
def fnReadTypeValueUnderSchemaCodingNoTypesWrong : ChangeSpec := { name := "fnReadTypeValueUnderSchemaCodingNoTypes", fn := fun _ => fun
  | [d1, d2, d3, d4] => { results := [.lit (.bool false)], args := [d1, d2, d3, d4] }
  | _ => none }
def FnReadTypeValueUnderSchemaCodingNoTypesWrongFalsely : Prop := fnReadTypeValueUnderSchemaCodingNoTypesRow.holds Try.pinned (OpenSpec.ofChange fnReadTypeValueUnderSchemaCodingNoTypesWrong)

/-- 'zzlaws_internal_layout_b1.FnListPrefixMarksExactlyItsKeysItems': WHATEVER THE INPUT: true; the input reads as it did. -/
def fnListPrefixMarksExactlyItsKeysItemsSpec : ChangeSpec := { name := "fnListPrefixMarksExactlyItsKeysItems", fn := fun _ => fun
  | [d1, d2, d3] => { results := [.lit (.bool true)], args := [d1, d2, d3] }
  | _ => none }
def fnListPrefixMarksExactlyItsKeysItemsRow : OpenClaim := { program := "qxb6605611a", sum := "d174666ed132570d9cf832a3a86122459224ef82de266d45d1d920269230c8fa", func := "example.com/pergola/pergola/zzlaws_internal_layout_b1.FnListPrefixMarksExactlyItsKeysItems", spec := "fnListPrefixMarksExactlyItsKeysItems", apart := false }
def FnListPrefixMarksExactlyItsKeysItemsSaid : Prop := fnListPrefixMarksExactlyItsKeysItemsRow.holds Try.pinned (OpenSpec.ofChange fnListPrefixMarksExactlyItsKeysItemsSpec)

/-- ITS FALSE NEIGHBOUR: 'it returns false'. Refute it at one input. -/
def fnListPrefixMarksExactlyItsKeysItemsWrong : ChangeSpec := { name := "fnListPrefixMarksExactlyItsKeysItems", fn := fun _ => fun
  | [d1, d2, d3] => { results := [.lit (.bool false)], args := [d1, d2, d3] }
  | _ => none }
def FnListPrefixMarksExactlyItsKeysItemsWrongFalsely : Prop := fnListPrefixMarksExactlyItsKeysItemsRow.holds Try.pinned (OpenSpec.ofChange fnListPrefixMarksExactlyItsKeysItemsWrong)

/-- 'zzlaws_internal_layout_b1.FnListPrefixSortsItemsByKeyFirst': WHATEVER THE INPUT: true; the input reads as it did. -/
def fnListPrefixSortsItemsByKeyFirstSpec : ChangeSpec := { name := "fnListPrefixSortsItemsByKeyFirst", fn := fun _ => fun
  | [d1, d2, d3, d4] => { results := [.lit (.bool true)], args := [d1, d2, d3, d4] }
  | _ => none }
def fnListPrefixSortsItemsByKeyFirstRow : OpenClaim := { program := "qxb6605611a", sum := "d174666ed132570d9cf832a3a86122459224ef82de266d45d1d920269230c8fa", func := "example.com/pergola/pergola/zzlaws_internal_layout_b1.FnListPrefixSortsItemsByKeyFirst", spec := "fnListPrefixSortsItemsByKeyFirst", apart := false }
def FnListPrefixSortsItemsByKeyFirstSaid : Prop := fnListPrefixSortsItemsByKeyFirstRow.holds Try.pinned (OpenSpec.ofChange fnListPrefixSortsItemsByKeyFirstSpec)

/-- ITS FALSE NEIGHBOUR: 'it returns false'. Refute it at one input. -/
def fnListPrefixSortsItemsByKeyFirstWrong : ChangeSpec := { name := "fnListPrefixSortsItemsByKeyFirst", fn := fun _ => fun
  | [d1, d2, d3, d4] => { results := [.lit (.bool false)], args := [d1, d2, d3, d4] }
  | _ => none }
def FnListPrefixSortsItemsByKeyFirstWrongFalsely : Prop := fnListPrefixSortsItemsByKeyFirstRow.holds Try.pinned (OpenSpec.ofChange fnListPrefixSortsItemsByKeyFirstWrong)

/-- 'zzlaws_internal_layout_b1.FnFillWritesExactlyTheHeldUnknownGrandchildren': WHATEVER THE INPUT: true; the input reads as it did. -/
def fnFillWritesExactlyTheHeldUnknownGrandchildrenSpec : ChangeSpec := { name := "fnFillWritesExactlyTheHeldUnknownGrandchildren", fn := fun _ => fun
  | [d1, d2, d3, d4] => { results := [.lit (.bool true)], args := [d1, d2, d3, d4] }
  | _ => none }
def fnFillWritesExactlyTheHeldUnknownGrandchildrenRow : OpenClaim := { program := "qxb6605611a", sum := "d174666ed132570d9cf832a3a86122459224ef82de266d45d1d920269230c8fa", func := "example.com/pergola/pergola/zzlaws_internal_layout_b1.FnFillWritesExactlyTheHeldUnknownGrandchildren", spec := "fnFillWritesExactlyTheHeldUnknownGrandchildren", inPlace := ["internal/bytealg.abigen_runtime_cmpstring"], unfollowed := true, recurses := true, apart := false }
def FnFillWritesExactlyTheHeldUnknownGrandchildrenSaid : Prop := fnFillWritesExactlyTheHeldUnknownGrandchildrenRow.holds Try.pinned (OpenSpec.ofChange fnFillWritesExactlyTheHeldUnknownGrandchildrenSpec)

/-- ITS FALSE NEIGHBOUR: 'it returns false'. Refute it at one input. -/
def fnFillWritesExactlyTheHeldUnknownGrandchildrenWrong : ChangeSpec := { name := "fnFillWritesExactlyTheHeldUnknownGrandchildren", fn := fun _ => fun
  | [d1, d2, d3, d4] => { results := [.lit (.bool false)], args := [d1, d2, d3, d4] }
  | _ => none }
def FnFillWritesExactlyTheHeldUnknownGrandchildrenWrongFalsely : Prop := fnFillWritesExactlyTheHeldUnknownGrandchildrenRow.holds Try.pinned (OpenSpec.ofChange fnFillWritesExactlyTheHeldUnknownGrandchildrenWrong)

/-- 'zzlaws_internal_layout_b1.FnFillRefusalLeavesEveryGrandchildAsItWas': WHATEVER THE INPUT: true; the input reads as it did. -/
def fnFillRefusalLeavesEveryGrandchildAsItWasSpec : ChangeSpec := { name := "fnFillRefusalLeavesEveryGrandchildAsItWas", fn := fun _ => fun
  | [d1, d2, d3, d4] => { results := [.lit (.bool true)], args := [d1, d2, d3, d4] }
  | _ => none }
def fnFillRefusalLeavesEveryGrandchildAsItWasRow : OpenClaim := { program := "qxb6605611a", sum := "d174666ed132570d9cf832a3a86122459224ef82de266d45d1d920269230c8fa", func := "example.com/pergola/pergola/zzlaws_internal_layout_b1.FnFillRefusalLeavesEveryGrandchildAsItWas", spec := "fnFillRefusalLeavesEveryGrandchildAsItWas", inPlace := ["internal/bytealg.abigen_runtime_cmpstring"], unfollowed := true, recurses := true, apart := false }
def FnFillRefusalLeavesEveryGrandchildAsItWasSaid : Prop := fnFillRefusalLeavesEveryGrandchildAsItWasRow.holds Try.pinned (OpenSpec.ofChange fnFillRefusalLeavesEveryGrandchildAsItWasSpec)

/-- ITS FALSE NEIGHBOUR: 'it returns false'. Refute it at one input. -/
def fnFillRefusalLeavesEveryGrandchildAsItWasWrong : ChangeSpec := { name := "fnFillRefusalLeavesEveryGrandchildAsItWas", fn := fun _ => fun
  | [d1, d2, d3, d4] => { results := [.lit (.bool false)], args := [d1, d2, d3, d4] }
  | _ => none }
def FnFillRefusalLeavesEveryGrandchildAsItWasWrongFalsely : Prop := fnFillRefusalLeavesEveryGrandchildAsItWasRow.holds Try.pinned (OpenSpec.ofChange fnFillRefusalLeavesEveryGrandchildAsItWasWrong)

end Rows
end Go.Proofs.Qxb6605611a
