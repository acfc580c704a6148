/-
  No cell of these rows narrows 'for every input' (looked for: loops, veiled, ifaces, maps, wideKeys, modest, calm, conditions, laid).
  DERIVED. THE GIVEN ROWS OF THIS SEAT. 2 by the template 'for every input the law returns true; each argument reads behind the call as it read before'; 0 by the template 'total and deterministic' (their statements: Qxb6605643aTotals.lean).
  GIVEN WITH THE SEED: the statements are not yours to turn. If you find one false, say at which input.
  Laid BY PROGRAM, IN A SANDBOX (cutbox-rows.mjs): the forced cells as the released guide's own fill.sh prints them over the translation d956ec7e585ae1fd… (all of the seat's roots in one cut). By AI agents, Wed Nov 11 2026. No macro, syntax, notation, axiom, sorry.
-/
import Derived.Test.Qxb6605643aChecked
import GoSem.Claim
import GoSem.ClaimJoined
import GoSem.ClaimMapViews
import Derived.JoinedTies
import Derived.KernelRfl
namespace Go.Proofs.Qxb6605643a
/- THE CELL 'sum', in the pinned program and in every row, IS THE sha256 OF THE DUMP (.gsa) THAT Qxb6605643aProg.lean LOADS. Nothing in Lean hashes anything: it is a label: what it is worth is what the hold of that sum in a sandbox is worth. -/
noncomputable def Try.pinned : Pinned := { name := "qxb6605643a", sum := "d956ec7e585ae1fd2a83496c4e96d5c7cd19e70843c4b63047918b344552f102", checked := Try.checked }
namespace Rows
def none {H : Type} : Left H := { results := [], args := [] }

/-- 'zzlaws_internal_terms_b1.FnPresentScriptAnswersAndRecordsExactly': WHATEVER THE INPUT: true; the input reads as it did. -/
def fnPresentScriptAnswersAndRecordsExactlySpec : ChangeSpec := { name := "fnPresentScriptAnswersAndRecordsExactly", fn := fun _ => fun
  | [d1, d2, d3] => { results := [.lit (.bool true)], args := [d1, d2, d3] }
  | _ => none }
def fnPresentScriptAnswersAndRecordsExactlyRow : OpenClaim := { program := "qxb6605643a", sum := "d956ec7e585ae1fd2a83496c4e96d5c7cd19e70843c4b63047918b344552f102", func := "example.com/zhaomu/zhaomu/zzlaws_internal_terms_b1.FnPresentScriptAnswersAndRecordsExactly", spec := "fnPresentScriptAnswersAndRecordsExactly", apart := false }
def FnPresentScriptAnswersAndRecordsExactlySaid : Prop := fnPresentScriptAnswersAndRecordsExactlyRow.holds Try.pinned (OpenSpec.ofChange fnPresentScriptAnswersAndRecordsExactlySpec)

/-- ITS FALSE NEIGHBOUR: 'it returns false'. Refute it at one input. -/
def fnPresentScriptAnswersAndRecordsExactlyWrong : ChangeSpec := { name := "fnPresentScriptAnswersAndRecordsExactly", fn := fun _ => fun
  | [d1, d2, d3] => { results := [.lit (.bool false)], args := [d1, d2, d3] }
  | _ => none }
def FnPresentScriptAnswersAndRecordsExactlyWrongFalsely : Prop := fnPresentScriptAnswersAndRecordsExactlyRow.holds Try.pinned (OpenSpec.ofChange fnPresentScriptAnswersAndRecordsExactlyWrong)

/-- 'zzlaws_internal_terms_b1.FnPresentAddedMemberClearsOnlyItsRecords': WHATEVER THE INPUT: true; the input reads as it did. -/
def fnPresentAddedMemberClearsOnlyItsRecordsSpec : ChangeSpec := { name := "fnPresentAddedMemberClearsOnlyItsRecords", fn := fun _ => fun
  | [d1, d2, d3, d4] => { results := [.lit (.bool true)], args := [d1, d2, d3, d4] }
  | _ => none }
def fnPresentAddedMemberClearsOnlyItsRecordsRow : OpenClaim := { program := "qxb6605643a", sum := "d956ec7e585ae1fd2a83496c4e96d5c7cd19e70843c4b63047918b344552f102", func := "example.com/zhaomu/zhaomu/zzlaws_internal_terms_b1.FnPresentAddedMemberClearsOnlyItsRecords", spec := "fnPresentAddedMemberClearsOnlyItsRecords", apart := false }
def FnPresentAddedMemberClearsOnlyItsRecordsSaid : Prop := fnPresentAddedMemberClearsOnlyItsRecordsRow.holds Try.pinned (OpenSpec.ofChange fnPresentAddedMemberClearsOnlyItsRecordsSpec)

/-- ITS FALSE NEIGHBOUR: 'it returns false'. Refute it at one input. -/
def fnPresentAddedMemberClearsOnlyItsRecordsWrong : ChangeSpec := { name := "fnPresentAddedMemberClearsOnlyItsRecords", fn := fun _ => fun
  | [d1, d2, d3, d4] => { results := [.lit (.bool false)], args := [d1, d2, d3, d4] }
  | _ => none }
def FnPresentAddedMemberClearsOnlyItsRecordsWrongFalsely : Prop := fnPresentAddedMemberClearsOnlyItsRecordsRow.holds Try.pinned (OpenSpec.ofChange fnPresentAddedMemberClearsOnlyItsRecordsWrong)

end Rows
end Go.Proofs.Qxb6605643a
