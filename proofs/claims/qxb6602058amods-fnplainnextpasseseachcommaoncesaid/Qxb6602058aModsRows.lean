/-
  No cell of these rows narrows 'for every input' (looked for: loops, veiled, ifaces, maps, wideKeys, modest, calm, conditions, laid).
  DERIVED. THE GIVEN ROWS OF THIS SEAT. 7 by the template 'for every input the law returns true; each argument reads behind the call as it read before'; 0 by the template 'total and deterministic' (their statements: Qxb6602058aModsTotals.lean).
  GIVEN WITH THE SEED: the statements are not yours to turn. If you find one false, say at which input.
  Laid BY PROGRAM, IN A SANDBOX (cutbox-rows.mjs): the forced cells as the released guide's own fill.sh prints them over the translation cbb9fea9210018ce… (all of the seat's roots in one cut). By AI agents, Wed Nov 11 2026. No macro, syntax, notation, axiom, sorry.
-/
import Derived.Test.Qxb6602058aModsChecked
import GoSem.Claim
import GoSem.ClaimJoined
import GoSem.ClaimMapViews
import Derived.JoinedTies
import Derived.KernelRfl
namespace Go.Proofs.Qxb6602058aMods
/- THE CELL 'sum', in the pinned program and in every row, IS THE sha256 OF THE DUMP (.gsa) THAT Qxb6602058aModsProg.lean LOADS. Nothing in Lean hashes anything: it is a label: what it is worth is what the hold of that sum in a sandbox is worth. -/
noncomputable def Trym.pinned : Pinned := { name := "qxb6602058amods", sum := "cbb9fea9210018cea4d1587a0c0a7a683f982684bad9b5fcffa24e0fb73499d9", checked := Trym.checked }
namespace Rows
def none {H : Type} : Left H := { results := [], args := [] }

/-- 'zzlaws_api_b1.FnPlainTextMatchesTwoSearches': WHATEVER THE INPUT: true; the input reads as it did. -/
def fnPlainTextMatchesTwoSearchesSpec : ChangeSpec := { name := "fnPlainTextMatchesTwoSearches", fn := fun _ => fun
  | [d1, d2] => { results := [.lit (.bool true)], args := [d1, d2] }
  | _ => none }
def fnPlainTextMatchesTwoSearchesRow : OpenClaim := { program := "qxb6602058amods", sum := "cbb9fea9210018cea4d1587a0c0a7a683f982684bad9b5fcffa24e0fb73499d9", func := "example.com/member-invites/member-invites/zzlaws_api_b1.FnPlainTextMatchesTwoSearches", spec := "fnPlainTextMatchesTwoSearches", make := .lifted ["publicsums"], apart := false }
def FnPlainTextMatchesTwoSearchesSaid : Prop := fnPlainTextMatchesTwoSearchesRow.holds Trym.pinned (OpenSpec.ofChange fnPlainTextMatchesTwoSearchesSpec)

/-- ITS FALSE NEIGHBOUR: 'it returns false'. Refute it at one input. -/
def fnPlainTextMatchesTwoSearchesWrong : ChangeSpec := { name := "fnPlainTextMatchesTwoSearches", fn := fun _ => fun
  | [d1, d2] => { results := [.lit (.bool false)], args := [d1, d2] }
  | _ => none }
def FnPlainTextMatchesTwoSearchesWrongFalsely : Prop := fnPlainTextMatchesTwoSearchesRow.holds Trym.pinned (OpenSpec.ofChange fnPlainTextMatchesTwoSearchesWrong)

/-- 'zzlaws_api_b1.FnPlainTextReadsBackWhatWasQuoted': WHATEVER THE INPUT: true; the input reads as it did. -/
def fnPlainTextReadsBackWhatWasQuotedSpec : ChangeSpec := { name := "fnPlainTextReadsBackWhatWasQuoted", fn := fun _ => fun
  | [d1, d2, d3] => { results := [.lit (.bool true)], args := [d1, d2, d3] }
  | _ => none }
def fnPlainTextReadsBackWhatWasQuotedRow : OpenClaim := { program := "qxb6602058amods", sum := "cbb9fea9210018cea4d1587a0c0a7a683f982684bad9b5fcffa24e0fb73499d9", func := "example.com/member-invites/member-invites/zzlaws_api_b1.FnPlainTextReadsBackWhatWasQuoted", spec := "fnPlainTextReadsBackWhatWasQuoted", make := .lifted ["publicsums"], apart := false }
def FnPlainTextReadsBackWhatWasQuotedSaid : Prop := fnPlainTextReadsBackWhatWasQuotedRow.holds Trym.pinned (OpenSpec.ofChange fnPlainTextReadsBackWhatWasQuotedSpec)

/-- ITS FALSE NEIGHBOUR: 'it returns false'. Refute it at one input. -/
def fnPlainTextReadsBackWhatWasQuotedWrong : ChangeSpec := { name := "fnPlainTextReadsBackWhatWasQuoted", fn := fun _ => fun
  | [d1, d2, d3] => { results := [.lit (.bool false)], args := [d1, d2, d3] }
  | _ => none }
def FnPlainTextReadsBackWhatWasQuotedWrongFalsely : Prop := fnPlainTextReadsBackWhatWasQuotedRow.holds Trym.pinned (OpenSpec.ofChange fnPlainTextReadsBackWhatWasQuotedWrong)

/-- 'zzlaws_api_b1.FnMemberTextAgreesWithPlainText': WHATEVER THE INPUT: true; the input reads as it did. -/
def fnMemberTextAgreesWithPlainTextSpec : ChangeSpec := { name := "fnMemberTextAgreesWithPlainText", fn := fun _ => fun
  | [d1, d2] => { results := [.lit (.bool true)], args := [d1, d2] }
  | _ => none }
def fnMemberTextAgreesWithPlainTextRow : OpenClaim := { program := "qxb6602058amods", sum := "cbb9fea9210018cea4d1587a0c0a7a683f982684bad9b5fcffa24e0fb73499d9", func := "example.com/member-invites/member-invites/zzlaws_api_b1.FnMemberTextAgreesWithPlainText", spec := "fnMemberTextAgreesWithPlainText", make := .lifted ["publicsums"], apart := false }
def FnMemberTextAgreesWithPlainTextSaid : Prop := fnMemberTextAgreesWithPlainTextRow.holds Trym.pinned (OpenSpec.ofChange fnMemberTextAgreesWithPlainTextSpec)

/-- ITS FALSE NEIGHBOUR: 'it returns false'. Refute it at one input. -/
def fnMemberTextAgreesWithPlainTextWrong : ChangeSpec := { name := "fnMemberTextAgreesWithPlainText", fn := fun _ => fun
  | [d1, d2] => { results := [.lit (.bool false)], args := [d1, d2] }
  | _ => none }
def FnMemberTextAgreesWithPlainTextWrongFalsely : Prop := fnMemberTextAgreesWithPlainTextRow.holds Trym.pinned (OpenSpec.ofChange fnMemberTextAgreesWithPlainTextWrong)

/-- 'zzlaws_api_b1.FnMemberTextMatchesBackslashParity': WHATEVER THE INPUT: true; the input reads as it did. -/
def fnMemberTextMatchesBackslashParitySpec : ChangeSpec := { name := "fnMemberTextMatchesBackslashParity", fn := fun _ => fun
  | [d1, d2] => { results := [.lit (.bool true)], args := [d1, d2] }
  | _ => none }
def fnMemberTextMatchesBackslashParityRow : OpenClaim := { program := "qxb6602058amods", sum := "cbb9fea9210018cea4d1587a0c0a7a683f982684bad9b5fcffa24e0fb73499d9", func := "example.com/member-invites/member-invites/zzlaws_api_b1.FnMemberTextMatchesBackslashParity", spec := "fnMemberTextMatchesBackslashParity", make := .lifted ["publicsums"], apart := false }
def FnMemberTextMatchesBackslashParitySaid : Prop := fnMemberTextMatchesBackslashParityRow.holds Trym.pinned (OpenSpec.ofChange fnMemberTextMatchesBackslashParitySpec)

/-- ITS FALSE NEIGHBOUR: 'it returns false'. Refute it at one input. -/
def fnMemberTextMatchesBackslashParityWrong : ChangeSpec := { name := "fnMemberTextMatchesBackslashParity", fn := fun _ => fun
  | [d1, d2] => { results := [.lit (.bool false)], args := [d1, d2] }
  | _ => none }
def FnMemberTextMatchesBackslashParityWrongFalsely : Prop := fnMemberTextMatchesBackslashParityRow.holds Trym.pinned (OpenSpec.ofChange fnMemberTextMatchesBackslashParityWrong)

/-- 'zzlaws_api_b1.FnMemberTextReadsBackWhatWasEscaped': WHATEVER THE INPUT: true; the input reads as it did. -/
def fnMemberTextReadsBackWhatWasEscapedSpec : ChangeSpec := { name := "fnMemberTextReadsBackWhatWasEscaped", fn := fun _ => fun
  | [d1, d2, d3] => { results := [.lit (.bool true)], args := [d1, d2, d3] }
  | _ => none }
def fnMemberTextReadsBackWhatWasEscapedRow : OpenClaim := { program := "qxb6602058amods", sum := "cbb9fea9210018cea4d1587a0c0a7a683f982684bad9b5fcffa24e0fb73499d9", func := "example.com/member-invites/member-invites/zzlaws_api_b1.FnMemberTextReadsBackWhatWasEscaped", spec := "fnMemberTextReadsBackWhatWasEscaped", make := .lifted ["publicsums"], apart := false }
def FnMemberTextReadsBackWhatWasEscapedSaid : Prop := fnMemberTextReadsBackWhatWasEscapedRow.holds Trym.pinned (OpenSpec.ofChange fnMemberTextReadsBackWhatWasEscapedSpec)

/-- ITS FALSE NEIGHBOUR: 'it returns false'. Refute it at one input. -/
def fnMemberTextReadsBackWhatWasEscapedWrong : ChangeSpec := { name := "fnMemberTextReadsBackWhatWasEscaped", fn := fun _ => fun
  | [d1, d2, d3] => { results := [.lit (.bool false)], args := [d1, d2, d3] }
  | _ => none }
def FnMemberTextReadsBackWhatWasEscapedWrongFalsely : Prop := fnMemberTextReadsBackWhatWasEscapedRow.holds Trym.pinned (OpenSpec.ofChange fnMemberTextReadsBackWhatWasEscapedWrong)

/-- 'zzlaws_api_b1.FnPlainNextMatchesSeparatorShape': WHATEVER THE INPUT: true; the input reads as it did. -/
def fnPlainNextMatchesSeparatorShapeSpec : ChangeSpec := { name := "fnPlainNextMatchesSeparatorShape", fn := fun _ => fun
  | [d1, d2] => { results := [.lit (.bool true)], args := [d1, d2] }
  | _ => none }
def fnPlainNextMatchesSeparatorShapeRow : OpenClaim := { program := "qxb6602058amods", sum := "cbb9fea9210018cea4d1587a0c0a7a683f982684bad9b5fcffa24e0fb73499d9", func := "example.com/member-invites/member-invites/zzlaws_api_b1.FnPlainNextMatchesSeparatorShape", spec := "fnPlainNextMatchesSeparatorShape", make := .lifted ["publicsums"], apart := false }
def FnPlainNextMatchesSeparatorShapeSaid : Prop := fnPlainNextMatchesSeparatorShapeRow.holds Trym.pinned (OpenSpec.ofChange fnPlainNextMatchesSeparatorShapeSpec)

/-- ITS FALSE NEIGHBOUR: 'it returns false'. Refute it at one input. -/
def fnPlainNextMatchesSeparatorShapeWrong : ChangeSpec := { name := "fnPlainNextMatchesSeparatorShape", fn := fun _ => fun
  | [d1, d2] => { results := [.lit (.bool false)], args := [d1, d2] }
  | _ => none }
def FnPlainNextMatchesSeparatorShapeWrongFalsely : Prop := fnPlainNextMatchesSeparatorShapeRow.holds Trym.pinned (OpenSpec.ofChange fnPlainNextMatchesSeparatorShapeWrong)

/-- 'zzlaws_api_b1.FnPlainNextPassesEachCommaOnce': WHATEVER THE INPUT: true; the input reads as it did. -/
def fnPlainNextPassesEachCommaOnceSpec : ChangeSpec := { name := "fnPlainNextPassesEachCommaOnce", fn := fun _ => fun
  | [d] => { results := [.lit (.bool true)], args := [d] }
  | _ => none }
def fnPlainNextPassesEachCommaOnceRow : OpenClaim := { program := "qxb6602058amods", sum := "cbb9fea9210018cea4d1587a0c0a7a683f982684bad9b5fcffa24e0fb73499d9", func := "example.com/member-invites/member-invites/zzlaws_api_b1.FnPlainNextPassesEachCommaOnce", spec := "fnPlainNextPassesEachCommaOnce", make := .lifted ["publicsums"], apart := false }
def FnPlainNextPassesEachCommaOnceSaid : Prop := fnPlainNextPassesEachCommaOnceRow.holds Trym.pinned (OpenSpec.ofChange fnPlainNextPassesEachCommaOnceSpec)

/-- ITS FALSE NEIGHBOUR: 'it returns false'. Refute it at one input. -/
def fnPlainNextPassesEachCommaOnceWrong : ChangeSpec := { name := "fnPlainNextPassesEachCommaOnce", fn := fun _ => fun
  | [d] => { results := [.lit (.bool false)], args := [d] }
  | _ => none }
def FnPlainNextPassesEachCommaOnceWrongFalsely : Prop := fnPlainNextPassesEachCommaOnceRow.holds Trym.pinned (OpenSpec.ofChange fnPlainNextPassesEachCommaOnceWrong)

end Rows
end Go.Proofs.Qxb6602058aMods
