/-
  No cell of these rows narrows 'for every input' (looked for: loops, veiled, ifaces, maps, wideKeys, modest, calm, conditions, laid).
  DERIVED. THE GIVEN ROWS OF THIS SEAT. 5 by the template 'for every input the law returns true; each argument reads behind the call as it read before'; 0 by the template 'total and deterministic' (their statements: Qxb6000802aModsTotals.lean).
  GIVEN WITH THE SEED: the statements are not yours to turn. If you find one false, say at which input.
  Laid BY PROGRAM, IN A SANDBOX (cutbox-rows.mjs): the forced cells as the released guide's own fill.sh prints them over the translation 77e716e48e2640b4… (all of the seat's roots in one cut). By AI agents, Wed Nov 11 2026. No macro, syntax, notation, axiom, sorry.
-/
import Derived.Test.Qxb6000802aModsChecked
import GoSem.Claim
import GoSem.ClaimJoined
import GoSem.ClaimMapViews
import Derived.JoinedTies
import Derived.KernelRfl
namespace Go.Proofs.Qxb6000802aMods
/- THE CELL 'sum', in the pinned program and in every row, IS THE sha256 OF THE DUMP (.gsa) THAT Qxb6000802aModsProg.lean LOADS. Nothing in Lean hashes anything: it is a label: what it is worth is what the hold of that sum in a sandbox is worth. -/
noncomputable def Trym.pinned : Pinned := { name := "qxb6000802amods", sum := "77e716e48e2640b46871be2c620a1eece56dd614b78d29f035ec60402886eebb", checked := Trym.checked }
namespace Rows
def none {H : Type} : Left H := { results := [], args := [] }

/-- 'zzlaws_internal_transfer_b1.FnFinalStatePeriodTenAndSymmetric': WHATEVER THE INPUT: true; the input reads as it did. -/
def fnFinalStatePeriodTenAndSymmetricSpec : ChangeSpec := { name := "fnFinalStatePeriodTenAndSymmetric", fn := fun _ => fun
  | [d] => { results := [.lit (.bool true)], args := [d] }
  | _ => none }
def fnFinalStatePeriodTenAndSymmetricRow : OpenClaim := { program := "qxb6000802amods", sum := "77e716e48e2640b46871be2c620a1eece56dd614b78d29f035ec60402886eebb", func := "example.com/makegood/makegood/zzlaws_internal_transfer_b1.FnFinalStatePeriodTenAndSymmetric", spec := "fnFinalStatePeriodTenAndSymmetric", make := .lifted ["publicsums"], apart := false }
def FnFinalStatePeriodTenAndSymmetricSaid : Prop := fnFinalStatePeriodTenAndSymmetricRow.holds Trym.pinned (OpenSpec.ofChange fnFinalStatePeriodTenAndSymmetricSpec)

/-- ITS FALSE NEIGHBOUR: 'it returns false'. Refute it at one input. -/
def fnFinalStatePeriodTenAndSymmetricWrong : ChangeSpec := { name := "fnFinalStatePeriodTenAndSymmetric", fn := fun _ => fun
  | [d] => { results := [.lit (.bool false)], args := [d] }
  | _ => none }
def FnFinalStatePeriodTenAndSymmetricWrongFalsely : Prop := fnFinalStatePeriodTenAndSymmetricRow.holds Trym.pinned (OpenSpec.ofChange fnFinalStatePeriodTenAndSymmetricWrong)

/-- 'zzlaws_internal_transfer_b1.FnFinalStateCompensatedExactlyWhenNoMoneyMoves': WHATEVER THE INPUT: true; the input reads as it did. -/
def fnFinalStateCompensatedExactlyWhenNoMoneyMovesSpec : ChangeSpec := { name := "fnFinalStateCompensatedExactlyWhenNoMoneyMoves", fn := fun _ => fun
  | [d] => { results := [.lit (.bool true)], args := [d] }
  | _ => none }
def fnFinalStateCompensatedExactlyWhenNoMoneyMovesRow : OpenClaim := { program := "qxb6000802amods", sum := "77e716e48e2640b46871be2c620a1eece56dd614b78d29f035ec60402886eebb", func := "example.com/makegood/makegood/zzlaws_internal_transfer_b1.FnFinalStateCompensatedExactlyWhenNoMoneyMoves", spec := "fnFinalStateCompensatedExactlyWhenNoMoneyMoves", make := .lifted ["publicsums"], apart := false }
def FnFinalStateCompensatedExactlyWhenNoMoneyMovesSaid : Prop := fnFinalStateCompensatedExactlyWhenNoMoneyMovesRow.holds Trym.pinned (OpenSpec.ofChange fnFinalStateCompensatedExactlyWhenNoMoneyMovesSpec)

/-- ITS FALSE NEIGHBOUR: 'it returns false'. Refute it at one input. -/
def fnFinalStateCompensatedExactlyWhenNoMoneyMovesWrong : ChangeSpec := { name := "fnFinalStateCompensatedExactlyWhenNoMoneyMoves", fn := fun _ => fun
  | [d] => { results := [.lit (.bool false)], args := [d] }
  | _ => none }
def FnFinalStateCompensatedExactlyWhenNoMoneyMovesWrongFalsely : Prop := fnFinalStateCompensatedExactlyWhenNoMoneyMovesRow.holds Trym.pinned (OpenSpec.ofChange fnFinalStateCompensatedExactlyWhenNoMoneyMovesWrong)

/-- 'zzlaws_internal_transfer_b1.FnExpectedMatchesCountingModel': WHATEVER THE INPUT: true; the input reads as it did. -/
def fnExpectedMatchesCountingModelSpec : ChangeSpec := { name := "fnExpectedMatchesCountingModel", fn := fun _ => fun
  | [d] => { results := [.lit (.bool true)], args := [d] }
  | _ => none }
def fnExpectedMatchesCountingModelRow : OpenClaim := { program := "qxb6000802amods", sum := "77e716e48e2640b46871be2c620a1eece56dd614b78d29f035ec60402886eebb", func := "example.com/makegood/makegood/zzlaws_internal_transfer_b1.FnExpectedMatchesCountingModel", spec := "fnExpectedMatchesCountingModel", make := .lifted ["publicsums"], apart := false }
def FnExpectedMatchesCountingModelSaid : Prop := fnExpectedMatchesCountingModelRow.holds Trym.pinned (OpenSpec.ofChange fnExpectedMatchesCountingModelSpec)

/-- ITS FALSE NEIGHBOUR: 'it returns false'. Refute it at one input. -/
def fnExpectedMatchesCountingModelWrong : ChangeSpec := { name := "fnExpectedMatchesCountingModel", fn := fun _ => fun
  | [d] => { results := [.lit (.bool false)], args := [d] }
  | _ => none }
def FnExpectedMatchesCountingModelWrongFalsely : Prop := fnExpectedMatchesCountingModelRow.holds Trym.pinned (OpenSpec.ofChange fnExpectedMatchesCountingModelWrong)

/-- 'zzlaws_internal_transfer_b1.FnExpectedConservesMoney': WHATEVER THE INPUT: true; the input reads as it did. -/
def fnExpectedConservesMoneySpec : ChangeSpec := { name := "fnExpectedConservesMoney", fn := fun _ => fun
  | [d] => { results := [.lit (.bool true)], args := [d] }
  | _ => none }
def fnExpectedConservesMoneyRow : OpenClaim := { program := "qxb6000802amods", sum := "77e716e48e2640b46871be2c620a1eece56dd614b78d29f035ec60402886eebb", func := "example.com/makegood/makegood/zzlaws_internal_transfer_b1.FnExpectedConservesMoney", spec := "fnExpectedConservesMoney", make := .lifted ["publicsums"], apart := false }
def FnExpectedConservesMoneySaid : Prop := fnExpectedConservesMoneyRow.holds Trym.pinned (OpenSpec.ofChange fnExpectedConservesMoneySpec)

/-- ITS FALSE NEIGHBOUR: 'it returns false'. Refute it at one input. -/
def fnExpectedConservesMoneyWrong : ChangeSpec := { name := "fnExpectedConservesMoney", fn := fun _ => fun
  | [d] => { results := [.lit (.bool false)], args := [d] }
  | _ => none }
def FnExpectedConservesMoneyWrongFalsely : Prop := fnExpectedConservesMoneyRow.holds Trym.pinned (OpenSpec.ofChange fnExpectedConservesMoneyWrong)

/-- 'zzlaws_internal_transfer_b1.FnExpectedMonotone': WHATEVER THE INPUT: true; the input reads as it did. -/
def fnExpectedMonotoneSpec : ChangeSpec := { name := "fnExpectedMonotone", fn := fun _ => fun
  | [d1, d2] => { results := [.lit (.bool true)], args := [d1, d2] }
  | _ => none }
def fnExpectedMonotoneRow : OpenClaim := { program := "qxb6000802amods", sum := "77e716e48e2640b46871be2c620a1eece56dd614b78d29f035ec60402886eebb", func := "example.com/makegood/makegood/zzlaws_internal_transfer_b1.FnExpectedMonotone", spec := "fnExpectedMonotone", make := .lifted ["publicsums"], apart := false }
def FnExpectedMonotoneSaid : Prop := fnExpectedMonotoneRow.holds Trym.pinned (OpenSpec.ofChange fnExpectedMonotoneSpec)

/-- ITS FALSE NEIGHBOUR: 'it returns false'. Refute it at one input. -/
def fnExpectedMonotoneWrong : ChangeSpec := { name := "fnExpectedMonotone", fn := fun _ => fun
  | [d1, d2] => { results := [.lit (.bool false)], args := [d1, d2] }
  | _ => none }
def FnExpectedMonotoneWrongFalsely : Prop := fnExpectedMonotoneRow.holds Trym.pinned (OpenSpec.ofChange fnExpectedMonotoneWrong)

end Rows
end Go.Proofs.Qxb6000802aMods
