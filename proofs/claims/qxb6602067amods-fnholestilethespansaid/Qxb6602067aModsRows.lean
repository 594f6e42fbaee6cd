/-
  No cell of these rows narrows 'for every input' (looked for: loops, veiled, ifaces, maps, wideKeys, modest, calm, conditions, laid).
  DERIVED. THE GIVEN ROWS OF THIS SEAT. 8 by the template 'for every input the law returns true; each argument reads behind the call as it read before'; 0 by the template 'total and deterministic' (their statements: Qxb6602067aModsTotals.lean).
  GIVEN WITH THE SEED: the statements are not yours to turn. If you find one false, say at which input.
  Laid BY PROGRAM, IN A SANDBOX (cutbox-rows.mjs): the forced cells as the released guide's own fill.sh prints them over the translation 378417eeec287d1a… (all of the seat's roots in one cut). By AI agents, Wed Nov 11 2026. No macro, syntax, notation, axiom, sorry.
-/
import Derived.Test.Qxb6602067aModsChecked
import GoSem.Claim
import GoSem.ClaimJoined
import GoSem.ClaimMapViews
import Derived.JoinedTies
import Derived.KernelRfl
namespace Go.Proofs.Qxb6602067aMods
/- THE CELL 'sum', in the pinned program and in every row, IS THE sha256 OF THE DUMP (.gsa) THAT Qxb6602067aModsProg.lean LOADS. Nothing in Lean hashes anything: it is a label: what it is worth is what the hold of that sum in a sandbox is worth. -/
noncomputable def Trym.pinned : Pinned := { name := "qxb6602067amods", sum := "378417eeec287d1a87688d4b4125679d159cb55e754b41f41405d2a20ba891e2", checked := Trym.checked }
namespace Rows
def none {H : Type} : Left H := { results := [], args := [] }

/-- 'zzlaws_internal_wire_b1.FnHolesTileTheSpan': WHATEVER THE INPUT: true; the input reads as it did. -/
def fnHolesTileTheSpanSpec : ChangeSpec := { name := "fnHolesTileTheSpan", fn := fun _ => fun
  | [d1, d2, d3, d4] => { results := [.lit (.bool true)], args := [d1, d2, d3, d4] }
  | _ => none }
def fnHolesTileTheSpanRow : OpenClaim := { program := "qxb6602067amods", sum := "378417eeec287d1a87688d4b4125679d159cb55e754b41f41405d2a20ba891e2", func := "example.com/mendlog/mendlog/zzlaws_internal_wire_b1.FnHolesTileTheSpan", spec := "fnHolesTileTheSpan", make := .lifted ["publicsums"], apart := false }
def FnHolesTileTheSpanSaid : Prop := fnHolesTileTheSpanRow.holds Trym.pinned (OpenSpec.ofChange fnHolesTileTheSpanSpec)

/-- ITS FALSE NEIGHBOUR: 'it returns false'. Refute it at one input. -/
def fnHolesTileTheSpanWrong : ChangeSpec := { name := "fnHolesTileTheSpan", fn := fun _ => fun
  | [d1, d2, d3, d4] => { results := [.lit (.bool false)], args := [d1, d2, d3, d4] }
  | _ => none }
def FnHolesTileTheSpanWrongFalsely : Prop := fnHolesTileTheSpanRow.holds Trym.pinned (OpenSpec.ofChange fnHolesTileTheSpanWrong)

/-- 'zzlaws_internal_wire_b1.FnHolesIgnoreEmptySegments': WHATEVER THE INPUT: true; the input reads as it did. -/
def fnHolesIgnoreEmptySegmentsSpec : ChangeSpec := { name := "fnHolesIgnoreEmptySegments", fn := fun _ => fun
  | [d1, d2, d3, d4] => { results := [.lit (.bool true)], args := [d1, d2, d3, d4] }
  | _ => none }
def fnHolesIgnoreEmptySegmentsRow : OpenClaim := { program := "qxb6602067amods", sum := "378417eeec287d1a87688d4b4125679d159cb55e754b41f41405d2a20ba891e2", func := "example.com/mendlog/mendlog/zzlaws_internal_wire_b1.FnHolesIgnoreEmptySegments", spec := "fnHolesIgnoreEmptySegments", make := .lifted ["publicsums"], apart := false }
def FnHolesIgnoreEmptySegmentsSaid : Prop := fnHolesIgnoreEmptySegmentsRow.holds Trym.pinned (OpenSpec.ofChange fnHolesIgnoreEmptySegmentsSpec)

/-- ITS FALSE NEIGHBOUR: 'it returns false'. Refute it at one input. -/
def fnHolesIgnoreEmptySegmentsWrong : ChangeSpec := { name := "fnHolesIgnoreEmptySegments", fn := fun _ => fun
  | [d1, d2, d3, d4] => { results := [.lit (.bool false)], args := [d1, d2, d3, d4] }
  | _ => none }
def FnHolesIgnoreEmptySegmentsWrongFalsely : Prop := fnHolesIgnoreEmptySegmentsRow.holds Trym.pinned (OpenSpec.ofChange fnHolesIgnoreEmptySegmentsWrong)

/-- 'zzlaws_internal_wire_b1.FnHolesShareNoIndexWithSegments': WHATEVER THE INPUT: true; the input reads as it did. -/
def fnHolesShareNoIndexWithSegmentsSpec : ChangeSpec := { name := "fnHolesShareNoIndexWithSegments", fn := fun _ => fun
  | [d1, d2, d3, d4] => { results := [.lit (.bool true)], args := [d1, d2, d3, d4] }
  | _ => none }
def fnHolesShareNoIndexWithSegmentsRow : OpenClaim := { program := "qxb6602067amods", sum := "378417eeec287d1a87688d4b4125679d159cb55e754b41f41405d2a20ba891e2", func := "example.com/mendlog/mendlog/zzlaws_internal_wire_b1.FnHolesShareNoIndexWithSegments", spec := "fnHolesShareNoIndexWithSegments", make := .lifted ["publicsums"], apart := false }
def FnHolesShareNoIndexWithSegmentsSaid : Prop := fnHolesShareNoIndexWithSegmentsRow.holds Trym.pinned (OpenSpec.ofChange fnHolesShareNoIndexWithSegmentsSpec)

/-- ITS FALSE NEIGHBOUR: 'it returns false'. Refute it at one input. -/
def fnHolesShareNoIndexWithSegmentsWrong : ChangeSpec := { name := "fnHolesShareNoIndexWithSegments", fn := fun _ => fun
  | [d1, d2, d3, d4] => { results := [.lit (.bool false)], args := [d1, d2, d3, d4] }
  | _ => none }
def FnHolesShareNoIndexWithSegmentsWrongFalsely : Prop := fnHolesShareNoIndexWithSegmentsRow.holds Trym.pinned (OpenSpec.ofChange fnHolesShareNoIndexWithSegmentsWrong)

/-- 'zzlaws_internal_wire_b1.FnOverlapCountsCommonIndexes': WHATEVER THE INPUT: true; the input reads as it did. -/
def fnOverlapCountsCommonIndexesSpec : ChangeSpec := { name := "fnOverlapCountsCommonIndexes", fn := fun _ => fun
  | [d1, d2] => { results := [.lit (.bool true)], args := [d1, d2] }
  | _ => none }
def fnOverlapCountsCommonIndexesRow : OpenClaim := { program := "qxb6602067amods", sum := "378417eeec287d1a87688d4b4125679d159cb55e754b41f41405d2a20ba891e2", func := "example.com/mendlog/mendlog/zzlaws_internal_wire_b1.FnOverlapCountsCommonIndexes", spec := "fnOverlapCountsCommonIndexes", make := .lifted ["publicsums"], apart := false }
def FnOverlapCountsCommonIndexesSaid : Prop := fnOverlapCountsCommonIndexesRow.holds Trym.pinned (OpenSpec.ofChange fnOverlapCountsCommonIndexesSpec)

/-- ITS FALSE NEIGHBOUR: 'it returns false'. Refute it at one input. -/
def fnOverlapCountsCommonIndexesWrong : ChangeSpec := { name := "fnOverlapCountsCommonIndexes", fn := fun _ => fun
  | [d1, d2] => { results := [.lit (.bool false)], args := [d1, d2] }
  | _ => none }
def FnOverlapCountsCommonIndexesWrongFalsely : Prop := fnOverlapCountsCommonIndexesRow.holds Trym.pinned (OpenSpec.ofChange fnOverlapCountsCommonIndexesWrong)

/-- 'zzlaws_internal_wire_b1.FnOverlapSymmetric': WHATEVER THE INPUT: true; the input reads as it did. -/
def fnOverlapSymmetricSpec : ChangeSpec := { name := "fnOverlapSymmetric", fn := fun _ => fun
  | [d1, d2] => { results := [.lit (.bool true)], args := [d1, d2] }
  | _ => none }
def fnOverlapSymmetricRow : OpenClaim := { program := "qxb6602067amods", sum := "378417eeec287d1a87688d4b4125679d159cb55e754b41f41405d2a20ba891e2", func := "example.com/mendlog/mendlog/zzlaws_internal_wire_b1.FnOverlapSymmetric", spec := "fnOverlapSymmetric", make := .lifted ["publicsums"], apart := false }
def FnOverlapSymmetricSaid : Prop := fnOverlapSymmetricRow.holds Trym.pinned (OpenSpec.ofChange fnOverlapSymmetricSpec)

/-- ITS FALSE NEIGHBOUR: 'it returns false'. Refute it at one input. -/
def fnOverlapSymmetricWrong : ChangeSpec := { name := "fnOverlapSymmetric", fn := fun _ => fun
  | [d1, d2] => { results := [.lit (.bool false)], args := [d1, d2] }
  | _ => none }
def FnOverlapSymmetricWrongFalsely : Prop := fnOverlapSymmetricRow.holds Trym.pinned (OpenSpec.ofChange fnOverlapSymmetricWrong)

/-- 'zzlaws_internal_wire_b1.FnInExact': WHATEVER THE INPUT: true; the input reads as it did. -/
def fnInExactSpec : ChangeSpec := { name := "fnInExact", fn := fun _ => fun
  | [d1, d2, d3, d4, d5] => { results := [.lit (.bool true)], args := [d1, d2, d3, d4, d5] }
  | _ => none }
def fnInExactRow : OpenClaim := { program := "qxb6602067amods", sum := "378417eeec287d1a87688d4b4125679d159cb55e754b41f41405d2a20ba891e2", func := "example.com/mendlog/mendlog/zzlaws_internal_wire_b1.FnInExact", spec := "fnInExact", unfollowed := true, recurses := true, make := .lifted ["publicsums"], apart := false }
def FnInExactSaid : Prop := fnInExactRow.holds Trym.pinned (OpenSpec.ofChange fnInExactSpec)

/-- ITS FALSE NEIGHBOUR: 'it returns false'. Refute it at one input. -/
def fnInExactWrong : ChangeSpec := { name := "fnInExact", fn := fun _ => fun
  | [d1, d2, d3, d4, d5] => { results := [.lit (.bool false)], args := [d1, d2, d3, d4, d5] }
  | _ => none }
def FnInExactWrongFalsely : Prop := fnInExactRow.holds Trym.pinned (OpenSpec.ofChange fnInExactWrong)

/-- 'zzlaws_internal_wire_b1.FnInWiderSegment': WHATEVER THE INPUT: true; the input reads as it did. -/
def fnInWiderSegmentSpec : ChangeSpec := { name := "fnInWiderSegment", fn := fun _ => fun
  | [d1, d2, d3, d4, d5, d6, d7] => { results := [.lit (.bool true)], args := [d1, d2, d3, d4, d5, d6, d7] }
  | _ => none }
def fnInWiderSegmentRow : OpenClaim := { program := "qxb6602067amods", sum := "378417eeec287d1a87688d4b4125679d159cb55e754b41f41405d2a20ba891e2", func := "example.com/mendlog/mendlog/zzlaws_internal_wire_b1.FnInWiderSegment", spec := "fnInWiderSegment", unfollowed := true, recurses := true, make := .lifted ["publicsums"], apart := false }
def FnInWiderSegmentSaid : Prop := fnInWiderSegmentRow.holds Trym.pinned (OpenSpec.ofChange fnInWiderSegmentSpec)

/-- ITS FALSE NEIGHBOUR: 'it returns false'. Refute it at one input. -/
def fnInWiderSegmentWrong : ChangeSpec := { name := "fnInWiderSegment", fn := fun _ => fun
  | [d1, d2, d3, d4, d5, d6, d7] => { results := [.lit (.bool false)], args := [d1, d2, d3, d4, d5, d6, d7] }
  | _ => none }
def FnInWiderSegmentWrongFalsely : Prop := fnInWiderSegmentRow.holds Trym.pinned (OpenSpec.ofChange fnInWiderSegmentWrong)

/-- 'zzlaws_internal_wire_b1.FnInAgreesWithOverlap': WHATEVER THE INPUT: true; the input reads as it did. -/
def fnInAgreesWithOverlapSpec : ChangeSpec := { name := "fnInAgreesWithOverlap", fn := fun _ => fun
  | [d1, d2, d3, d4, d5] => { results := [.lit (.bool true)], args := [d1, d2, d3, d4, d5] }
  | _ => none }
def fnInAgreesWithOverlapRow : OpenClaim := { program := "qxb6602067amods", sum := "378417eeec287d1a87688d4b4125679d159cb55e754b41f41405d2a20ba891e2", func := "example.com/mendlog/mendlog/zzlaws_internal_wire_b1.FnInAgreesWithOverlap", spec := "fnInAgreesWithOverlap", unfollowed := true, recurses := true, make := .lifted ["publicsums"], apart := false }
def FnInAgreesWithOverlapSaid : Prop := fnInAgreesWithOverlapRow.holds Trym.pinned (OpenSpec.ofChange fnInAgreesWithOverlapSpec)

/-- ITS FALSE NEIGHBOUR: 'it returns false'. Refute it at one input. -/
def fnInAgreesWithOverlapWrong : ChangeSpec := { name := "fnInAgreesWithOverlap", fn := fun _ => fun
  | [d1, d2, d3, d4, d5] => { results := [.lit (.bool false)], args := [d1, d2, d3, d4, d5] }
  | _ => none }
def FnInAgreesWithOverlapWrongFalsely : Prop := fnInAgreesWithOverlapRow.holds Trym.pinned (OpenSpec.ofChange fnInAgreesWithOverlapWrong)

end Rows
end Go.Proofs.Qxb6602067aMods
