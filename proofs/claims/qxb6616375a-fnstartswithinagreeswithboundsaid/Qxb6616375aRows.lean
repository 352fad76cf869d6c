/-
  No cell of these rows narrows 'for every input' (looked for: loops, veiled, ifaces, maps, wideKeys, modest, calm, conditions, laid).
  DERIVED. THE GIVEN ROWS OF THIS SEAT. 5 by the template 'for every input the law returns true; each argument reads behind the call as it read before'; 0 by the template 'total and deterministic' (their statements: Qxb6616375aTotals.lean).
  GIVEN WITH THE SEED: the statements are not yours to turn. If you find one false, say at which input.
  Laid BY PROGRAM, IN A SANDBOX (cutbox-rows.mjs): the forced cells as the released guide's own fill.sh prints them over the translation ec2fd04356354eef… (all of the seat's roots in one cut). By AI agents, Wed Nov 11 2026. No macro, syntax, notation, axiom, sorry.
-/
import Derived.Test.Qxb6616375aChecked
import GoSem.Claim
import GoSem.ClaimJoined
import GoSem.ClaimMapViews
import Derived.JoinedTies
import Derived.KernelRfl
namespace Go.Proofs.Qxb6616375a
/- THE CELL 'sum', in the pinned program and in every row, IS THE sha256 OF THE DUMP (.gsa) THAT Qxb6616375aProg.lean LOADS. Nothing in Lean hashes anything: it is a label: what it is worth is what the hold of that sum in a sandbox is worth. -/
noncomputable def Try.pinned : Pinned := { name := "qxb6616375a", sum := "ec2fd04356354eef99de4472c5feaa1cabb1eb8b0d5c46231c4ec56d6a016495", checked := Try.checked }
namespace Rows
def none {H : Type} : Left H := { results := [], args := [] }

/-- 'zzlaws_pkg_verdict_b1.FnCloseBracketEmptiesTheStack': WHATEVER THE INPUT: true; the input reads as it did. -/
def fnCloseBracketEmptiesTheStackSpec : ChangeSpec := { name := "fnCloseBracketEmptiesTheStack", fn := fun _ => fun
  | [d1, d2, d3, d4, d5, d6, d7, d8, d9, d10] => { results := [.lit (.bool true)], args := [d1, d2, d3, d4, d5, d6, d7, d8, d9, d10] }
  | _ => none }
def fnCloseBracketEmptiesTheStackRow : OpenClaim := { program := "qxb6616375a", sum := "ec2fd04356354eef99de4472c5feaa1cabb1eb8b0d5c46231c4ec56d6a016495", func := "example.com/redraft/redraft/zzlaws_pkg_verdict_b1.FnCloseBracketEmptiesTheStack", spec := "fnCloseBracketEmptiesTheStack", inPlace := ["internal/bytealg.IndexByteString", "internal/bytealg.IndexString"], unfollowed := true, recurses := true, named := ["internal/bytealg.MaxLen"], apart := false }
def FnCloseBracketEmptiesTheStackSaid : Prop := fnCloseBracketEmptiesTheStackRow.holds Try.pinned (OpenSpec.ofChange fnCloseBracketEmptiesTheStackSpec)

/-- ITS FALSE NEIGHBOUR: 'it returns false'. Refute it at one input. -/
def fnCloseBracketEmptiesTheStackWrong : ChangeSpec := { name := "fnCloseBracketEmptiesTheStack", fn := fun _ => fun
  | [d1, d2, d3, d4, d5, d6, d7, d8, d9, d10] => { results := [.lit (.bool false)], args := [d1, d2, d3, d4, d5, d6, d7, d8, d9, d10] }
  | _ => none }
def FnCloseBracketEmptiesTheStackWrongFalsely : Prop := fnCloseBracketEmptiesTheStackRow.holds Try.pinned (OpenSpec.ofChange fnCloseBracketEmptiesTheStackWrong)

/-- 'zzlaws_pkg_verdict_b1.FnStartsWithinSplitsAtAnyLine': WHATEVER THE INPUT: true; the input reads as it did. -/
def fnStartsWithinSplitsAtAnyLineSpec : ChangeSpec := { name := "fnStartsWithinSplitsAtAnyLine", fn := fun _ => fun
  | [d1, d2, d3, d4] => { results := [.lit (.bool true)], args := [d1, d2, d3, d4] }
  | _ => none }
def fnStartsWithinSplitsAtAnyLineRow : OpenClaim := { program := "qxb6616375a", sum := "ec2fd04356354eef99de4472c5feaa1cabb1eb8b0d5c46231c4ec56d6a016495", func := "example.com/redraft/redraft/zzlaws_pkg_verdict_b1.FnStartsWithinSplitsAtAnyLine", spec := "fnStartsWithinSplitsAtAnyLine", unfollowed := true, recurses := true, apart := false }
def FnStartsWithinSplitsAtAnyLineSaid : Prop := fnStartsWithinSplitsAtAnyLineRow.holds Try.pinned (OpenSpec.ofChange fnStartsWithinSplitsAtAnyLineSpec)

/-- ITS FALSE NEIGHBOUR: 'it returns false'. Refute it at one input. -/
def fnStartsWithinSplitsAtAnyLineWrong : ChangeSpec := { name := "fnStartsWithinSplitsAtAnyLine", fn := fun _ => fun
  | [d1, d2, d3, d4] => { results := [.lit (.bool false)], args := [d1, d2, d3, d4] }
  | _ => none }
def FnStartsWithinSplitsAtAnyLineWrongFalsely : Prop := fnStartsWithinSplitsAtAnyLineRow.holds Try.pinned (OpenSpec.ofChange fnStartsWithinSplitsAtAnyLineWrong)

/-- 'zzlaws_pkg_verdict_b1.FnStartsWithinAgreesWithBound': WHATEVER THE INPUT: true; the input reads as it did. -/
def fnStartsWithinAgreesWithBoundSpec : ChangeSpec := { name := "fnStartsWithinAgreesWithBound", fn := fun _ => fun
  | [d1, d2, d3] => { results := [.lit (.bool true)], args := [d1, d2, d3] }
  | _ => none }
def fnStartsWithinAgreesWithBoundRow : OpenClaim := { program := "qxb6616375a", sum := "ec2fd04356354eef99de4472c5feaa1cabb1eb8b0d5c46231c4ec56d6a016495", func := "example.com/redraft/redraft/zzlaws_pkg_verdict_b1.FnStartsWithinAgreesWithBound", spec := "fnStartsWithinAgreesWithBound", unfollowed := true, recurses := true, apart := false }
def FnStartsWithinAgreesWithBoundSaid : Prop := fnStartsWithinAgreesWithBoundRow.holds Try.pinned (OpenSpec.ofChange fnStartsWithinAgreesWithBoundSpec)

/-- ITS FALSE NEIGHBOUR: 'it returns false'. Refute it at one input. -/
def fnStartsWithinAgreesWithBoundWrong : ChangeSpec := { name := "fnStartsWithinAgreesWithBound", fn := fun _ => fun
  | [d1, d2, d3] => { results := [.lit (.bool false)], args := [d1, d2, d3] }
  | _ => none }
def FnStartsWithinAgreesWithBoundWrongFalsely : Prop := fnStartsWithinAgreesWithBoundRow.holds Try.pinned (OpenSpec.ofChange fnStartsWithinAgreesWithBoundWrong)

/-- 'zzlaws_pkg_verdict_b1.FnRawHTMLOpenJoinsAtAnyCut': WHATEVER THE INPUT: true; the input reads as it did. -/
def fnRawHTMLOpenJoinsAtAnyCutSpec : ChangeSpec := { name := "fnRawHTMLOpenJoinsAtAnyCut", fn := fun _ => fun
  | [d1, d2, d3] => { results := [.lit (.bool true)], args := [d1, d2, d3] }
  | _ => none }
def fnRawHTMLOpenJoinsAtAnyCutRow : OpenClaim := { program := "qxb6616375a", sum := "ec2fd04356354eef99de4472c5feaa1cabb1eb8b0d5c46231c4ec56d6a016495", func := "example.com/redraft/redraft/zzlaws_pkg_verdict_b1.FnRawHTMLOpenJoinsAtAnyCut", spec := "fnRawHTMLOpenJoinsAtAnyCut", apart := false }
def FnRawHTMLOpenJoinsAtAnyCutSaid : Prop := fnRawHTMLOpenJoinsAtAnyCutRow.holds Try.pinned (OpenSpec.ofChange fnRawHTMLOpenJoinsAtAnyCutSpec)

/-- ITS FALSE NEIGHBOUR: 'it returns false'. Refute it at one input. -/
def fnRawHTMLOpenJoinsAtAnyCutWrong : ChangeSpec := { name := "fnRawHTMLOpenJoinsAtAnyCut", fn := fun _ => fun
  | [d1, d2, d3] => { results := [.lit (.bool false)], args := [d1, d2, d3] }
  | _ => none }
def FnRawHTMLOpenJoinsAtAnyCutWrongFalsely : Prop := fnRawHTMLOpenJoinsAtAnyCutRow.holds Try.pinned (OpenSpec.ofChange fnRawHTMLOpenJoinsAtAnyCutWrong)

/-- 'zzlaws_pkg_verdict_b1.FnRawHTMLOpensOnAnyAddition': WHATEVER THE INPUT: true; the input reads as it did. -/
def fnRawHTMLOpensOnAnyAdditionSpec : ChangeSpec := { name := "fnRawHTMLOpensOnAnyAddition", fn := fun _ => fun
  | [d1, d2, d3, d4, d5] => { results := [.lit (.bool true)], args := [d1, d2, d3, d4, d5] }
  | _ => none }
def fnRawHTMLOpensOnAnyAdditionRow : OpenClaim := { program := "qxb6616375a", sum := "ec2fd04356354eef99de4472c5feaa1cabb1eb8b0d5c46231c4ec56d6a016495", func := "example.com/redraft/redraft/zzlaws_pkg_verdict_b1.FnRawHTMLOpensOnAnyAddition", spec := "fnRawHTMLOpensOnAnyAddition", apart := false }
def FnRawHTMLOpensOnAnyAdditionSaid : Prop := fnRawHTMLOpensOnAnyAdditionRow.holds Try.pinned (OpenSpec.ofChange fnRawHTMLOpensOnAnyAdditionSpec)

/-- ITS FALSE NEIGHBOUR: 'it returns false'. Refute it at one input. -/
def fnRawHTMLOpensOnAnyAdditionWrong : ChangeSpec := { name := "fnRawHTMLOpensOnAnyAddition", fn := fun _ => fun
  | [d1, d2, d3, d4, d5] => { results := [.lit (.bool false)], args := [d1, d2, d3, d4, d5] }
  | _ => none }
def FnRawHTMLOpensOnAnyAdditionWrongFalsely : Prop := fnRawHTMLOpensOnAnyAdditionRow.holds Try.pinned (OpenSpec.ofChange fnRawHTMLOpensOnAnyAdditionWrong)

end Rows
end Go.Proofs.Qxb6616375a
