/-
  NARROWER THAN 'FOR EVERY INPUT', by the rows' own cells (each row's printed sentence says how): FnListedMatchesItsDocumentedForm: loops · FnListedTwiceIsListedOnce: loops.
  DERIVED. THE GIVEN ROWS OF THIS SEAT. 4 by the template 'for every input the law returns true; each argument reads behind the call as it read before'; 0 by the template 'total and deterministic' (their statements: Qxb6616371aTotals.lean).
  GIVEN WITH THE SEED: the statements are not yours to turn. If you find one false, say at which input.
  Laid BY PROGRAM, IN A SANDBOX (cutbox-rows.mjs): the forced cells as the released guide's own fill.sh prints them over the translation 53987d5eb4ee2331… (all of the seat's roots in one cut). By AI agents, Wed Nov 11 2026. No macro, syntax, notation, axiom, sorry.
-/
import Derived.Test.Qxb6616371aChecked
import GoSem.Claim
import GoSem.ClaimJoined
import GoSem.ClaimMapViews
import Derived.JoinedTies
import Derived.KernelRfl
namespace Go.Proofs.Qxb6616371a
/- THE CELL 'sum', in the pinned program and in every row, IS THE sha256 OF THE DUMP (.gsa) THAT Qxb6616371aProg.lean LOADS. Nothing in Lean hashes anything: it is a label: what it is worth is what the hold of that sum in a sandbox is worth. -/
noncomputable def Try.pinned : Pinned := { name := "qxb6616371a", sum := "53987d5eb4ee2331ba5202d482e2893c6a0c58c2f5602ded2c29634c2c322023", checked := Try.checked }
namespace Rows
def none {H : Type} : Left H := { results := [], args := [] }

/-- 'zzlaws_responses_b1.FnIsMessageSurvivesListedByTypeAlone': WHATEVER THE INPUT: true; the input reads as it did. -/
def fnIsMessageSurvivesListedByTypeAloneSpec : ChangeSpec := { name := "fnIsMessageSurvivesListedByTypeAlone", fn := fun _ => fun
  | [d1, d2, d3] => { results := [.lit (.bool true)], args := [d1, d2, d3] }
  | _ => none }
def fnIsMessageSurvivesListedByTypeAloneRow : OpenClaim := { program := "qxb6616371a", sum := "53987d5eb4ee2331ba5202d482e2893c6a0c58c2f5602ded2c29634c2c322023", func := "example.com/glot2/glot2/zzlaws_responses_b1.FnIsMessageSurvivesListedByTypeAlone", spec := "fnIsMessageSurvivesListedByTypeAlone", apart := false }
def FnIsMessageSurvivesListedByTypeAloneSaid : Prop := fnIsMessageSurvivesListedByTypeAloneRow.holds Try.pinned (OpenSpec.ofChange fnIsMessageSurvivesListedByTypeAloneSpec)

/-- ITS FALSE NEIGHBOUR: 'it returns false'. Refute it at one input. -/
def fnIsMessageSurvivesListedByTypeAloneWrong : ChangeSpec := { name := "fnIsMessageSurvivesListedByTypeAlone", fn := fun _ => fun
  | [d1, d2, d3] => { results := [.lit (.bool false)], args := [d1, d2, d3] }
  | _ => none }
def FnIsMessageSurvivesListedByTypeAloneWrongFalsely : Prop := fnIsMessageSurvivesListedByTypeAloneRow.holds Try.pinned (OpenSpec.ofChange fnIsMessageSurvivesListedByTypeAloneWrong)

/-- 'zzlaws_responses_b1.FnIsMessageRoleCountsOnlyForAnUntypedItem': WHATEVER THE INPUT: true; the input reads as it did. -/
def fnIsMessageRoleCountsOnlyForAnUntypedItemSpec : ChangeSpec := { name := "fnIsMessageRoleCountsOnlyForAnUntypedItem", fn := fun _ => fun
  | [d1, d2, d3] => { results := [.lit (.bool true)], args := [d1, d2, d3] }
  | _ => none }
def fnIsMessageRoleCountsOnlyForAnUntypedItemRow : OpenClaim := { program := "qxb6616371a", sum := "53987d5eb4ee2331ba5202d482e2893c6a0c58c2f5602ded2c29634c2c322023", func := "example.com/glot2/glot2/zzlaws_responses_b1.FnIsMessageRoleCountsOnlyForAnUntypedItem", spec := "fnIsMessageRoleCountsOnlyForAnUntypedItem", apart := false }
def FnIsMessageRoleCountsOnlyForAnUntypedItemSaid : Prop := fnIsMessageRoleCountsOnlyForAnUntypedItemRow.holds Try.pinned (OpenSpec.ofChange fnIsMessageRoleCountsOnlyForAnUntypedItemSpec)

/-- ITS FALSE NEIGHBOUR: 'it returns false'. Refute it at one input. -/
def fnIsMessageRoleCountsOnlyForAnUntypedItemWrong : ChangeSpec := { name := "fnIsMessageRoleCountsOnlyForAnUntypedItem", fn := fun _ => fun
  | [d1, d2, d3] => { results := [.lit (.bool false)], args := [d1, d2, d3] }
  | _ => none }
def FnIsMessageRoleCountsOnlyForAnUntypedItemWrongFalsely : Prop := fnIsMessageRoleCountsOnlyForAnUntypedItemRow.holds Try.pinned (OpenSpec.ofChange fnIsMessageRoleCountsOnlyForAnUntypedItemWrong)

/-- 'zzlaws_responses_b1.FnListedMatchesItsDocumentedForm': WHATEVER THE INPUT: true; the input reads as it did. -/
def fnListedMatchesItsDocumentedFormSpec : ChangeSpec := { name := "fnListedMatchesItsDocumentedForm", fn := fun _ => fun
  | [d] => { results := [.lit (.bool true)], args := [d] }
  | _ => none }
def fnListedMatchesItsDocumentedFormRow : OpenClaim := { program := "qxb6616371a", sum := "53987d5eb4ee2331ba5202d482e2893c6a0c58c2f5602ded2c29634c2c322023", func := "example.com/glot2/glot2/zzlaws_responses_b1.FnListedMatchesItsDocumentedForm", spec := "fnListedMatchesItsDocumentedForm", recurses := true, loops := true, apart := false }
def FnListedMatchesItsDocumentedFormSaid : Prop := fnListedMatchesItsDocumentedFormRow.holds Try.pinned (OpenSpec.ofChange fnListedMatchesItsDocumentedFormSpec)

/-- ITS FALSE NEIGHBOUR: 'it returns false'. Refute it at one input. -/
def fnListedMatchesItsDocumentedFormWrong : ChangeSpec := { name := "fnListedMatchesItsDocumentedForm", fn := fun _ => fun
  | [d] => { results := [.lit (.bool false)], args := [d] }
  | _ => none }
def FnListedMatchesItsDocumentedFormWrongFalsely : Prop := fnListedMatchesItsDocumentedFormRow.holds Try.pinned (OpenSpec.ofChange fnListedMatchesItsDocumentedFormWrong)

/-- 'zzlaws_responses_b1.FnListedTwiceIsListedOnce': WHATEVER THE INPUT: true; the input reads as it did. -/
def fnListedTwiceIsListedOnceSpec : ChangeSpec := { name := "fnListedTwiceIsListedOnce", fn := fun _ => fun
  | [d] => { results := [.lit (.bool true)], args := [d] }
  | _ => none }
def fnListedTwiceIsListedOnceRow : OpenClaim := { program := "qxb6616371a", sum := "53987d5eb4ee2331ba5202d482e2893c6a0c58c2f5602ded2c29634c2c322023", func := "example.com/glot2/glot2/zzlaws_responses_b1.FnListedTwiceIsListedOnce", spec := "fnListedTwiceIsListedOnce", recurses := true, loops := true, apart := false }
def FnListedTwiceIsListedOnceSaid : Prop := fnListedTwiceIsListedOnceRow.holds Try.pinned (OpenSpec.ofChange fnListedTwiceIsListedOnceSpec)

/-- ITS FALSE NEIGHBOUR: 'it returns false'. Refute it at one input. -/
def fnListedTwiceIsListedOnceWrong : ChangeSpec := { name := "fnListedTwiceIsListedOnce", fn := fun _ => fun
  | [d] => { results := [.lit (.bool false)], args := [d] }
  | _ => none }
def FnListedTwiceIsListedOnceWrongFalsely : Prop := fnListedTwiceIsListedOnceRow.holds Try.pinned (OpenSpec.ofChange fnListedTwiceIsListedOnceWrong)

end Rows
end Go.Proofs.Qxb6616371a
