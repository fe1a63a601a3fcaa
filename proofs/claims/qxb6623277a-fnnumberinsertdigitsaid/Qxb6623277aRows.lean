/-
  No cell of these rows narrows 'for every input' (looked for: loops, veiled, ifaces, maps, wideKeys, modest, calm, conditions, laid).
  DERIVED. THE GIVEN ROWS OF THIS SEAT. 1 by the template 'for every input the law returns true; each argument reads behind the call as it read before'; 0 by the template 'total and deterministic' (their statements: Qxb6623277aTotals.lean).
  GIVEN WITH THE SEED: the statements are not yours to turn. If you find one false, say at which input.
  Laid BY PROGRAM, IN A SANDBOX (cutbox-rows.mjs): the forced cells as the released guide's own fill.sh prints them over the translation 004e447cd01220c8… (all of the seat's roots in one cut). By AI agents, Wed Nov 11 2026. No macro, syntax, notation, axiom, sorry.
-/
import Derived.Test.Qxb6623277aChecked
import GoSem.Claim
import GoSem.ClaimJoined
import GoSem.ClaimMapViews
import Derived.JoinedTies
import Derived.KernelRfl
namespace Go.Proofs.Qxb6623277a
/- THE CELL 'sum', in the pinned program and in every row, IS THE sha256 OF THE DUMP (.gsa) THAT Qxb6623277aProg.lean LOADS. Nothing in Lean hashes anything: it is a label: what it is worth is what the hold of that sum in a sandbox is worth. -/
noncomputable def Try.pinned : Pinned := { name := "qxb6623277a", sum := "004e447cd01220c892209c2076b7d378ef877972705f6fe5b6de015a0f5ea870", checked := Try.checked }
namespace Rows
def none {H : Type} : Left H := { results := [], args := [] }

/-- 'zzlaws_pkg_lint_b1.FnNumberInsertDigit': WHATEVER THE INPUT: true; the input reads as it did. -/
def fnNumberInsertDigitSpec : ChangeSpec := { name := "fnNumberInsertDigit", fn := fun _ => fun
  | [d1, d2, d3] => { results := [.lit (.bool true)], args := [d1, d2, d3] }
  | _ => none }
def fnNumberInsertDigitRow : OpenClaim := { program := "qxb6623277a", sum := "004e447cd01220c892209c2076b7d378ef877972705f6fe5b6de015a0f5ea870", func := "example.com/kijun/kijun/zzlaws_pkg_lint_b1.FnNumberInsertDigit", spec := "fnNumberInsertDigit", apart := false }
def FnNumberInsertDigitSaid : Prop := fnNumberInsertDigitRow.holds Try.pinned (OpenSpec.ofChange fnNumberInsertDigitSpec)

/-- ITS FALSE NEIGHBOUR: 'it returns false'. Refute it at one input. -/
def fnNumberInsertDigitWrong : ChangeSpec := { name := "fnNumberInsertDigit", fn := fun _ => fun
  | [d1, d2, d3] => { results := [.lit (.bool false)], args := [d1, d2, d3] }
  | _ => none }
def FnNumberInsertDigitWrongFalsely : Prop := fnNumberInsertDigitRow.holds Try.pinned (OpenSpec.ofChange fnNumberInsertDigitWrong)

end Rows
end Go.Proofs.Qxb6623277a
