/-
  No cell of these rows narrows 'for every input' (looked for: loops, veiled, ifaces, maps, wideKeys, modest, calm, conditions, laid).
  DERIVED. THE GIVEN ROWS OF THIS SEAT. 6 by the template 'for every input the law returns true; each argument reads behind the call as it read before'; 0 by the template 'total and deterministic' (their statements: Qxb6000746aModsTotals.lean).
  GIVEN WITH THE SEED: the statements are not yours to turn. If you find one false, say at which input.
  Laid BY PROGRAM, IN A SANDBOX (cutbox-rows.mjs): the forced cells as the released guide's own fill.sh prints them over the translation f72d2832931c0033… (all of the seat's roots in one cut). By AI agents, Wed Nov 11 2026. No macro, syntax, notation, axiom, sorry.
-/
import Derived.Test.Qxb6000746aModsChecked
import GoSem.Claim
import GoSem.ClaimJoined
import GoSem.ClaimMapViews
import Derived.JoinedTies
import Derived.KernelRfl
namespace Go.Proofs.Qxb6000746aMods
/- THE CELL 'sum', in the pinned program and in every row, IS THE sha256 OF THE DUMP (.gsa) THAT Qxb6000746aModsProg.lean LOADS. Nothing in Lean hashes anything: it is a label: what it is worth is what the hold of that sum in a sandbox is worth. -/
noncomputable def Trym.pinned : Pinned := { name := "qxb6000746amods", sum := "f72d2832931c003358887a324151a6e72ffe4b3a336766816e8be7205e7751e1", checked := Trym.checked }
namespace Rows
def none {H : Type} : Left H := { results := [], args := [] }

/-- 'zzlaws_root_b1.FnValidTTLDecimal': WHATEVER THE INPUT: true; the input reads as it did. -/
def fnValidTTLDecimalSpec : ChangeSpec := { name := "fnValidTTLDecimal", fn := fun _ => fun
  | [d1, d2] => { results := [.lit (.bool true)], args := [d1, d2] }
  | _ => none }
def fnValidTTLDecimalRow : OpenClaim := { program := "qxb6000746amods", sum := "f72d2832931c003358887a324151a6e72ffe4b3a336766816e8be7205e7751e1", func := "example.com/portcullis/portcullis/zzlaws_root_b1.FnValidTTLDecimal", spec := "fnValidTTLDecimal", make := .lifted ["publicsums"], apart := false }
def FnValidTTLDecimalSaid : Prop := fnValidTTLDecimalRow.holds Trym.pinned (OpenSpec.ofChange fnValidTTLDecimalSpec)

/-- ITS FALSE NEIGHBOUR: 'it returns false'. Refute it at one input. -/
def fnValidTTLDecimalWrong : ChangeSpec := { name := "fnValidTTLDecimal", fn := fun _ => fun
  | [d1, d2] => { results := [.lit (.bool false)], args := [d1, d2] }
  | _ => none }
def FnValidTTLDecimalWrongFalsely : Prop := fnValidTTLDecimalRow.holds Trym.pinned (OpenSpec.ofChange fnValidTTLDecimalWrong)

/-- 'zzlaws_root_b1.FnValidTTLUnits': WHATEVER THE INPUT: true; the input reads as it did. -/
def fnValidTTLUnitsSpec : ChangeSpec := { name := "fnValidTTLUnits", fn := fun _ => fun
  | [d1, d2, d3, d4, d5, d6, d7] => { results := [.lit (.bool true)], args := [d1, d2, d3, d4, d5, d6, d7] }
  | _ => none }
def fnValidTTLUnitsRow : OpenClaim := { program := "qxb6000746amods", sum := "f72d2832931c003358887a324151a6e72ffe4b3a336766816e8be7205e7751e1", func := "example.com/portcullis/portcullis/zzlaws_root_b1.FnValidTTLUnits", spec := "fnValidTTLUnits", make := .lifted ["publicsums"], apart := false }
def FnValidTTLUnitsSaid : Prop := fnValidTTLUnitsRow.holds Trym.pinned (OpenSpec.ofChange fnValidTTLUnitsSpec)

/-- ITS FALSE NEIGHBOUR: 'it returns false'. Refute it at one input. -/
def fnValidTTLUnitsWrong : ChangeSpec := { name := "fnValidTTLUnits", fn := fun _ => fun
  | [d1, d2, d3, d4, d5, d6, d7] => { results := [.lit (.bool false)], args := [d1, d2, d3, d4, d5, d6, d7] }
  | _ => none }
def FnValidTTLUnitsWrongFalsely : Prop := fnValidTTLUnitsRow.holds Trym.pinned (OpenSpec.ofChange fnValidTTLUnitsWrong)

/-- 'zzlaws_root_b1.FnValidTTLRefusesForeignByte': WHATEVER THE INPUT: true; the input reads as it did. -/
def fnValidTTLRefusesForeignByteSpec : ChangeSpec := { name := "fnValidTTLRefusesForeignByte", fn := fun _ => fun
  | [d1, d2, d3] => { results := [.lit (.bool true)], args := [d1, d2, d3] }
  | _ => none }
def fnValidTTLRefusesForeignByteRow : OpenClaim := { program := "qxb6000746amods", sum := "f72d2832931c003358887a324151a6e72ffe4b3a336766816e8be7205e7751e1", func := "example.com/portcullis/portcullis/zzlaws_root_b1.FnValidTTLRefusesForeignByte", spec := "fnValidTTLRefusesForeignByte", make := .lifted ["publicsums"], apart := false }
def FnValidTTLRefusesForeignByteSaid : Prop := fnValidTTLRefusesForeignByteRow.holds Trym.pinned (OpenSpec.ofChange fnValidTTLRefusesForeignByteSpec)

/-- ITS FALSE NEIGHBOUR: 'it returns false'. Refute it at one input. -/
def fnValidTTLRefusesForeignByteWrong : ChangeSpec := { name := "fnValidTTLRefusesForeignByte", fn := fun _ => fun
  | [d1, d2, d3] => { results := [.lit (.bool false)], args := [d1, d2, d3] }
  | _ => none }
def FnValidTTLRefusesForeignByteWrongFalsely : Prop := fnValidTTLRefusesForeignByteRow.holds Trym.pinned (OpenSpec.ofChange fnValidTTLRefusesForeignByteWrong)

/-- 'zzlaws_root_b1.FnDomainEndIsLongestDomain': WHATEVER THE INPUT: true; the input reads as it did. -/
def fnDomainEndIsLongestDomainSpec : ChangeSpec := { name := "fnDomainEndIsLongestDomain", fn := fun _ => fun
  | [d1, d2] => { results := [.lit (.bool true)], args := [d1, d2] }
  | _ => none }
def fnDomainEndIsLongestDomainRow : OpenClaim := { program := "qxb6000746amods", sum := "f72d2832931c003358887a324151a6e72ffe4b3a336766816e8be7205e7751e1", func := "example.com/portcullis/portcullis/zzlaws_root_b1.FnDomainEndIsLongestDomain", spec := "fnDomainEndIsLongestDomain", make := .lifted ["publicsums"], apart := false }
def FnDomainEndIsLongestDomainSaid : Prop := fnDomainEndIsLongestDomainRow.holds Trym.pinned (OpenSpec.ofChange fnDomainEndIsLongestDomainSpec)

/-- ITS FALSE NEIGHBOUR: 'it returns false'. Refute it at one input. -/
def fnDomainEndIsLongestDomainWrong : ChangeSpec := { name := "fnDomainEndIsLongestDomain", fn := fun _ => fun
  | [d1, d2] => { results := [.lit (.bool false)], args := [d1, d2] }
  | _ => none }
def FnDomainEndIsLongestDomainWrongFalsely : Prop := fnDomainEndIsLongestDomainRow.holds Trym.pinned (OpenSpec.ofChange fnDomainEndIsLongestDomainWrong)

/-- 'zzlaws_root_b1.FnDomainEndContextFree': WHATEVER THE INPUT: true; the input reads as it did. -/
def fnDomainEndContextFreeSpec : ChangeSpec := { name := "fnDomainEndContextFree", fn := fun _ => fun
  | [d1, d2, d3] => { results := [.lit (.bool true)], args := [d1, d2, d3] }
  | _ => none }
def fnDomainEndContextFreeRow : OpenClaim := { program := "qxb6000746amods", sum := "f72d2832931c003358887a324151a6e72ffe4b3a336766816e8be7205e7751e1", func := "example.com/portcullis/portcullis/zzlaws_root_b1.FnDomainEndContextFree", spec := "fnDomainEndContextFree", make := .lifted ["publicsums"], apart := false }
def FnDomainEndContextFreeSaid : Prop := fnDomainEndContextFreeRow.holds Trym.pinned (OpenSpec.ofChange fnDomainEndContextFreeSpec)

/-- ITS FALSE NEIGHBOUR: 'it returns false'. Refute it at one input. -/
def fnDomainEndContextFreeWrong : ChangeSpec := { name := "fnDomainEndContextFree", fn := fun _ => fun
  | [d1, d2, d3] => { results := [.lit (.bool false)], args := [d1, d2, d3] }
  | _ => none }
def FnDomainEndContextFreeWrongFalsely : Prop := fnDomainEndContextFreeRow.holds Trym.pinned (OpenSpec.ofChange fnDomainEndContextFreeWrong)

/-- 'zzlaws_root_b1.FnDomainEndCutAtEnd': WHATEVER THE INPUT: true; the input reads as it did. -/
def fnDomainEndCutAtEndSpec : ChangeSpec := { name := "fnDomainEndCutAtEnd", fn := fun _ => fun
  | [d1, d2] => { results := [.lit (.bool true)], args := [d1, d2] }
  | _ => none }
def fnDomainEndCutAtEndRow : OpenClaim := { program := "qxb6000746amods", sum := "f72d2832931c003358887a324151a6e72ffe4b3a336766816e8be7205e7751e1", func := "example.com/portcullis/portcullis/zzlaws_root_b1.FnDomainEndCutAtEnd", spec := "fnDomainEndCutAtEnd", make := .lifted ["publicsums"], apart := false }
def FnDomainEndCutAtEndSaid : Prop := fnDomainEndCutAtEndRow.holds Trym.pinned (OpenSpec.ofChange fnDomainEndCutAtEndSpec)

/-- ITS FALSE NEIGHBOUR: 'it returns false'. Refute it at one input. -/
def fnDomainEndCutAtEndWrong : ChangeSpec := { name := "fnDomainEndCutAtEnd", fn := fun _ => fun
  | [d1, d2] => { results := [.lit (.bool false)], args := [d1, d2] }
  | _ => none }
def FnDomainEndCutAtEndWrongFalsely : Prop := fnDomainEndCutAtEndRow.holds Trym.pinned (OpenSpec.ofChange fnDomainEndCutAtEndWrong)

end Rows
end Go.Proofs.Qxb6000746aMods
