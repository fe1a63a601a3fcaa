/-
  No cell of these rows narrows 'for every input' (looked for: loops, veiled, ifaces, maps, wideKeys, modest, calm, conditions, laid).
  DERIVED. THE GIVEN ROWS OF THIS SEAT. 4 by the template 'for every input the law returns true; each argument reads behind the call as it read before'; 0 by the template 'total and deterministic' (their statements: Qxb6619462aTotals.lean).
  GIVEN WITH THE SEED: the statements are not yours to turn. If you find one false, say at which input.
  Laid BY PROGRAM, IN A SANDBOX (cutbox-rows.mjs): the forced cells as the released guide's own fill.sh prints them over the translation fd7f833d1d1fb149… (all of the seat's roots in one cut). By AI agents, Wed Nov 11 2026. No macro, syntax, notation, axiom, sorry.
-/
import Derived.Test.Qxb6619462aChecked
import GoSem.Claim
import GoSem.ClaimJoined
import GoSem.ClaimMapViews
import Derived.JoinedTies
import Derived.KernelRfl
namespace Go.Proofs.Qxb6619462a
/- THE CELL 'sum', in the pinned program and in every row, IS THE sha256 OF THE DUMP (.gsa) THAT Qxb6619462aProg.lean LOADS. Nothing in Lean hashes anything: it is a label: what it is worth is what the hold of that sum in a sandbox is worth. -/
noncomputable def Try.pinned : Pinned := { name := "qxb6619462a", sum := "fd7f833d1d1fb14951b1eb80e4b08f05c4dbd5d0ef00f6d603f38c30f80183d0", checked := Try.checked }
namespace Rows
def none {H : Type} : Left H := { results := [], args := [] }

/-- 'zzlaws_internal_xz_b1.FnBitAtOneHalfAgreesWithDirect': WHATEVER THE INPUT: true; the input reads as it did. -/
def fnBitAtOneHalfAgreesWithDirectSpec : ChangeSpec := { name := "fnBitAtOneHalfAgreesWithDirect", fn := fun _ => fun
  | [d1, d2, d3, d4, d5] => { results := [.lit (.bool true)], args := [d1, d2, d3, d4, d5] }
  | _ => none }
def fnBitAtOneHalfAgreesWithDirectRow : OpenClaim := { program := "qxb6619462a", sum := "fd7f833d1d1fb14951b1eb80e4b08f05c4dbd5d0ef00f6d603f38c30f80183d0", func := "example.com/garlic/garlic/zzlaws_internal_xz_b1.FnBitAtOneHalfAgreesWithDirect", spec := "fnBitAtOneHalfAgreesWithDirect", apart := false }
def FnBitAtOneHalfAgreesWithDirectSaid : Prop := fnBitAtOneHalfAgreesWithDirectRow.holds Try.pinned (OpenSpec.ofChange fnBitAtOneHalfAgreesWithDirectSpec)

/-- ITS FALSE NEIGHBOUR: 'it returns false'. Refute it at one input. -/
def fnBitAtOneHalfAgreesWithDirectWrong : ChangeSpec := { name := "fnBitAtOneHalfAgreesWithDirect", fn := fun _ => fun
  | [d1, d2, d3, d4, d5] => { results := [.lit (.bool false)], args := [d1, d2, d3, d4, d5] }
  | _ => none }
def FnBitAtOneHalfAgreesWithDirectWrongFalsely : Prop := fnBitAtOneHalfAgreesWithDirectRow.holds Try.pinned (OpenSpec.ofChange fnBitAtOneHalfAgreesWithDirectWrong)

/-- 'zzlaws_internal_xz_b1.FnBitMirrorsUnderComplement': WHATEVER THE INPUT: true; the input reads as it did. -/
def fnBitMirrorsUnderComplementSpec : ChangeSpec := { name := "fnBitMirrorsUnderComplement", fn := fun _ => fun
  | [d1, d2, d3, d4, d5, d6] => { results := [.lit (.bool true)], args := [d1, d2, d3, d4, d5, d6] }
  | _ => none }
def fnBitMirrorsUnderComplementRow : OpenClaim := { program := "qxb6619462a", sum := "fd7f833d1d1fb14951b1eb80e4b08f05c4dbd5d0ef00f6d603f38c30f80183d0", func := "example.com/garlic/garlic/zzlaws_internal_xz_b1.FnBitMirrorsUnderComplement", spec := "fnBitMirrorsUnderComplement", apart := false }
def FnBitMirrorsUnderComplementSaid : Prop := fnBitMirrorsUnderComplementRow.holds Try.pinned (OpenSpec.ofChange fnBitMirrorsUnderComplementSpec)

/-- ITS FALSE NEIGHBOUR: 'it returns false'. Refute it at one input. -/
def fnBitMirrorsUnderComplementWrong : ChangeSpec := { name := "fnBitMirrorsUnderComplement", fn := fun _ => fun
  | [d1, d2, d3, d4, d5, d6] => { results := [.lit (.bool false)], args := [d1, d2, d3, d4, d5, d6] }
  | _ => none }
def FnBitMirrorsUnderComplementWrongFalsely : Prop := fnBitMirrorsUnderComplementRow.holds Try.pinned (OpenSpec.ofChange fnBitMirrorsUnderComplementWrong)

/-- 'zzlaws_internal_xz_b1.FnResetSetsWholeModelAfresh': WHATEVER THE INPUT: true; the input reads as it did. -/
def fnResetSetsWholeModelAfreshSpec : ChangeSpec := { name := "fnResetSetsWholeModelAfresh", fn := fun _ => fun
  | [d] => { results := [.lit (.bool true)], args := [d] }
  | _ => none }
def fnResetSetsWholeModelAfreshRow : OpenClaim := { program := "qxb6619462a", sum := "fd7f833d1d1fb14951b1eb80e4b08f05c4dbd5d0ef00f6d603f38c30f80183d0", func := "example.com/garlic/garlic/zzlaws_internal_xz_b1.FnResetSetsWholeModelAfresh", spec := "fnResetSetsWholeModelAfresh", apart := false }
def FnResetSetsWholeModelAfreshSaid : Prop := fnResetSetsWholeModelAfreshRow.holds Try.pinned (OpenSpec.ofChange fnResetSetsWholeModelAfreshSpec)

/-- ITS FALSE NEIGHBOUR: 'it returns false'. Refute it at one input. -/
def fnResetSetsWholeModelAfreshWrong : ChangeSpec := { name := "fnResetSetsWholeModelAfresh", fn := fun _ => fun
  | [d] => { results := [.lit (.bool false)], args := [d] }
  | _ => none }
def FnResetSetsWholeModelAfreshWrongFalsely : Prop := fnResetSetsWholeModelAfreshRow.holds Try.pinned (OpenSpec.ofChange fnResetSetsWholeModelAfreshWrong)

/-- 'zzlaws_internal_xz_b1.FnDirectReadsRawBitsUnderPowerOfTwoRange': WHATEVER THE INPUT: true; the input reads as it did. -/
def fnDirectReadsRawBitsUnderPowerOfTwoRangeSpec : ChangeSpec := { name := "fnDirectReadsRawBitsUnderPowerOfTwoRange", fn := fun _ => fun
  | [d1, d2, d3, d4, d5, d6] => { results := [.lit (.bool true)], args := [d1, d2, d3, d4, d5, d6] }
  | _ => none }
def fnDirectReadsRawBitsUnderPowerOfTwoRangeRow : OpenClaim := { program := "qxb6619462a", sum := "fd7f833d1d1fb14951b1eb80e4b08f05c4dbd5d0ef00f6d603f38c30f80183d0", func := "example.com/garlic/garlic/zzlaws_internal_xz_b1.FnDirectReadsRawBitsUnderPowerOfTwoRange", spec := "fnDirectReadsRawBitsUnderPowerOfTwoRange", apart := false }
def FnDirectReadsRawBitsUnderPowerOfTwoRangeSaid : Prop := fnDirectReadsRawBitsUnderPowerOfTwoRangeRow.holds Try.pinned (OpenSpec.ofChange fnDirectReadsRawBitsUnderPowerOfTwoRangeSpec)

/-- ITS FALSE NEIGHBOUR: 'it returns false'. Refute it at one input. -/
def fnDirectReadsRawBitsUnderPowerOfTwoRangeWrong : ChangeSpec := { name := "fnDirectReadsRawBitsUnderPowerOfTwoRange", fn := fun _ => fun
  | [d1, d2, d3, d4, d5, d6] => { results := [.lit (.bool false)], args := [d1, d2, d3, d4, d5, d6] }
  | _ => none }
def FnDirectReadsRawBitsUnderPowerOfTwoRangeWrongFalsely : Prop := fnDirectReadsRawBitsUnderPowerOfTwoRangeRow.holds Try.pinned (OpenSpec.ofChange fnDirectReadsRawBitsUnderPowerOfTwoRangeWrong)

end Rows
end Go.Proofs.Qxb6619462a
