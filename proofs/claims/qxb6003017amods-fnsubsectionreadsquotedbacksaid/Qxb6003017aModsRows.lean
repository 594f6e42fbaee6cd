/-
  No cell of these rows narrows 'for every input' (looked for: loops, veiled, ifaces, maps, wideKeys, modest, calm, conditions, laid).
  DERIVED. THE GIVEN ROWS OF THIS SEAT. 4 by the template 'for every input the law returns true; each argument reads behind the call as it read before'; 0 by the template 'total and deterministic' (their statements: Qxb6003017aModsTotals.lean).
  GIVEN WITH THE SEED: the statements are not yours to turn. If you find one false, say at which input.
  Laid BY PROGRAM, IN A SANDBOX (cutbox-rows.mjs): the forced cells as the released guide's own fill.sh prints them over the translation 7cbca5d595388cbf… (all of the seat's roots in one cut). By AI agents, Wed Nov 11 2026. No macro, syntax, notation, axiom, sorry.
-/
import Derived.Test.Qxb6003017aModsChecked
import GoSem.Claim
import GoSem.ClaimJoined
import GoSem.ClaimMapViews
import Derived.JoinedTies
import Derived.KernelRfl
namespace Go.Proofs.Qxb6003017aMods
/- THE CELL 'sum', in the pinned program and in every row, IS THE sha256 OF THE DUMP (.gsa) THAT Qxb6003017aModsProg.lean LOADS. Nothing in Lean hashes anything: it is a label: what it is worth is what the hold of that sum in a sandbox is worth. -/
noncomputable def Trym.pinned : Pinned := { name := "qxb6003017amods", sum := "7cbca5d595388cbfcdc4cb7b0df025d2840ac1049f4c4a8c6d652ff5e59fa4b8", checked := Trym.checked }
namespace Rows
def none {H : Type} : Left H := { results := [], args := [] }

/-- 'zzlaws_internal_ignore_b1.FnConfigValueMatchesModel': WHATEVER THE INPUT: true; the input reads as it did. -/
def fnConfigValueMatchesModelSpec : ChangeSpec := { name := "fnConfigValueMatchesModel", fn := fun _ => fun
  | [d1, d2] => { results := [.lit (.bool true)], args := [d1, d2] }
  | _ => none }
def fnConfigValueMatchesModelRow : OpenClaim := { program := "qxb6003017amods", sum := "7cbca5d595388cbfcdc4cb7b0df025d2840ac1049f4c4a8c6d652ff5e59fa4b8", func := "example.com/globtrot/globtrot/zzlaws_internal_ignore_b1.FnConfigValueMatchesModel", spec := "fnConfigValueMatchesModel", inPlace := ["internal/bytealg.IndexByteString"], make := .lifted ["publicsums"], apart := false }
def FnConfigValueMatchesModelSaid : Prop := fnConfigValueMatchesModelRow.holds Trym.pinned (OpenSpec.ofChange fnConfigValueMatchesModelSpec)

/-- ITS FALSE NEIGHBOUR: 'it returns false'. Refute it at one input. -/
def fnConfigValueMatchesModelWrong : ChangeSpec := { name := "fnConfigValueMatchesModel", fn := fun _ => fun
  | [d1, d2] => { results := [.lit (.bool false)], args := [d1, d2] }
  | _ => none }
def FnConfigValueMatchesModelWrongFalsely : Prop := fnConfigValueMatchesModelRow.holds Trym.pinned (OpenSpec.ofChange fnConfigValueMatchesModelWrong)

/-- 'zzlaws_internal_ignore_b1.FnConfigValueReadsQuotedBack': WHATEVER THE INPUT: true; the input reads as it did. -/
def fnConfigValueReadsQuotedBackSpec : ChangeSpec := { name := "fnConfigValueReadsQuotedBack", fn := fun _ => fun
  | [d1, d2] => { results := [.lit (.bool true)], args := [d1, d2] }
  | _ => none }
def fnConfigValueReadsQuotedBackRow : OpenClaim := { program := "qxb6003017amods", sum := "7cbca5d595388cbfcdc4cb7b0df025d2840ac1049f4c4a8c6d652ff5e59fa4b8", func := "example.com/globtrot/globtrot/zzlaws_internal_ignore_b1.FnConfigValueReadsQuotedBack", spec := "fnConfigValueReadsQuotedBack", inPlace := ["internal/bytealg.IndexByteString"], make := .lifted ["publicsums"], apart := false }
def FnConfigValueReadsQuotedBackSaid : Prop := fnConfigValueReadsQuotedBackRow.holds Trym.pinned (OpenSpec.ofChange fnConfigValueReadsQuotedBackSpec)

/-- ITS FALSE NEIGHBOUR: 'it returns false'. Refute it at one input. -/
def fnConfigValueReadsQuotedBackWrong : ChangeSpec := { name := "fnConfigValueReadsQuotedBack", fn := fun _ => fun
  | [d1, d2] => { results := [.lit (.bool false)], args := [d1, d2] }
  | _ => none }
def FnConfigValueReadsQuotedBackWrongFalsely : Prop := fnConfigValueReadsQuotedBackRow.holds Trym.pinned (OpenSpec.ofChange fnConfigValueReadsQuotedBackWrong)

/-- 'zzlaws_internal_ignore_b1.FnSubsectionReadsQuotedBack': WHATEVER THE INPUT: true; the input reads as it did. -/
def fnSubsectionReadsQuotedBackSpec : ChangeSpec := { name := "fnSubsectionReadsQuotedBack", fn := fun _ => fun
  | [d1, d2] => { results := [.lit (.bool true)], args := [d1, d2] }
  | _ => none }
def fnSubsectionReadsQuotedBackRow : OpenClaim := { program := "qxb6003017amods", sum := "7cbca5d595388cbfcdc4cb7b0df025d2840ac1049f4c4a8c6d652ff5e59fa4b8", func := "example.com/globtrot/globtrot/zzlaws_internal_ignore_b1.FnSubsectionReadsQuotedBack", spec := "fnSubsectionReadsQuotedBack", make := .lifted ["publicsums"], apart := false }
def FnSubsectionReadsQuotedBackSaid : Prop := fnSubsectionReadsQuotedBackRow.holds Trym.pinned (OpenSpec.ofChange fnSubsectionReadsQuotedBackSpec)

/-- ITS FALSE NEIGHBOUR: 'it returns false'. Refute it at one input. -/
def fnSubsectionReadsQuotedBackWrong : ChangeSpec := { name := "fnSubsectionReadsQuotedBack", fn := fun _ => fun
  | [d1, d2] => { results := [.lit (.bool false)], args := [d1, d2] }
  | _ => none }
def FnSubsectionReadsQuotedBackWrongFalsely : Prop := fnSubsectionReadsQuotedBackRow.holds Trym.pinned (OpenSpec.ofChange fnSubsectionReadsQuotedBackWrong)

/-- 'zzlaws_internal_ignore_b1.FnMatchRunAgreesWithDP': WHATEVER THE INPUT: true; the input reads as it did. -/
def fnMatchRunAgreesWithDPSpec : ChangeSpec := { name := "fnMatchRunAgreesWithDP", fn := fun _ => fun
  | [d1, d2, d3, d4] => { results := [.lit (.bool true)], args := [d1, d2, d3, d4] }
  | _ => none }
def fnMatchRunAgreesWithDPRow : OpenClaim := { program := "qxb6003017amods", sum := "7cbca5d595388cbfcdc4cb7b0df025d2840ac1049f4c4a8c6d652ff5e59fa4b8", func := "example.com/globtrot/globtrot/zzlaws_internal_ignore_b1.FnMatchRunAgreesWithDP", spec := "fnMatchRunAgreesWithDP", inPlace := ["internal/bytealg.IndexByteString"], recurses := true, make := .lifted ["publicsums"], apart := false }
def FnMatchRunAgreesWithDPSaid : Prop := fnMatchRunAgreesWithDPRow.holds Trym.pinned (OpenSpec.ofChange fnMatchRunAgreesWithDPSpec)

/-- ITS FALSE NEIGHBOUR: 'it returns false'. Refute it at one input. -/
def fnMatchRunAgreesWithDPWrong : ChangeSpec := { name := "fnMatchRunAgreesWithDP", fn := fun _ => fun
  | [d1, d2, d3, d4] => { results := [.lit (.bool false)], args := [d1, d2, d3, d4] }
  | _ => none }
def FnMatchRunAgreesWithDPWrongFalsely : Prop := fnMatchRunAgreesWithDPRow.holds Trym.pinned (OpenSpec.ofChange fnMatchRunAgreesWithDPWrong)

end Rows
end Go.Proofs.Qxb6003017aMods
