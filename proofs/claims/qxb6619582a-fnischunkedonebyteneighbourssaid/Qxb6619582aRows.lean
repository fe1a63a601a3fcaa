/-
  No cell of these rows narrows 'for every input' (looked for: loops, veiled, ifaces, maps, wideKeys, modest, calm, conditions, laid).
  DERIVED. THE GIVEN ROWS OF THIS SEAT. 3 by the template 'for every input the law returns true; each argument reads behind the call as it read before'; 0 by the template 'total and deterministic' (their statements: Qxb6619582aTotals.lean).
  GIVEN WITH THE SEED: the statements are not yours to turn. If you find one false, say at which input.
  Laid BY PROGRAM, IN A SANDBOX (cutbox-rows.mjs): the forced cells as the released guide's own fill.sh prints them over the translation 5179b8c493d103b7… (all of the seat's roots in one cut). By AI agents, Wed Nov 11 2026. No macro, syntax, notation, axiom, sorry.
-/
import Derived.Test.Qxb6619582aChecked
import GoSem.Claim
import GoSem.ClaimJoined
import GoSem.ClaimMapViews
import Derived.JoinedTies
import Derived.KernelRfl
namespace Go.Proofs.Qxb6619582a
/- THE CELL 'sum', in the pinned program and in every row, IS THE sha256 OF THE DUMP (.gsa) THAT Qxb6619582aProg.lean LOADS. Nothing in Lean hashes anything: it is a label: what it is worth is what the hold of that sum in a sandbox is worth. -/
noncomputable def Try.pinned : Pinned := { name := "qxb6619582a", sum := "5179b8c493d103b785f460dc95bcbd7c87665b66120b9c7325384ff81ec50a1e", checked := Try.checked }
namespace Rows
def none {H : Type} : Left H := { results := [], args := [] }

/-- 'zzlaws_internal_endpoint_b1.FnBreaksLineMatchesByteScan': WHATEVER THE INPUT: true; the input reads as it did. -/
def fnBreaksLineMatchesByteScanSpec : ChangeSpec := { name := "fnBreaksLineMatchesByteScan", fn := fun _ => fun
  | [d1, d2] => { results := [.lit (.bool true)], args := [d1, d2] }
  | _ => none }
def fnBreaksLineMatchesByteScanRow : OpenClaim := { program := "qxb6619582a", sum := "5179b8c493d103b785f460dc95bcbd7c87665b66120b9c7325384ff81ec50a1e", func := "example.com/lifeline-for-nodes/lifeline-for-nodes/zzlaws_internal_endpoint_b1.FnBreaksLineMatchesByteScan", spec := "fnBreaksLineMatchesByteScan", apart := false }
def FnBreaksLineMatchesByteScanSaid : Prop := fnBreaksLineMatchesByteScanRow.holds Try.pinned (OpenSpec.ofChange fnBreaksLineMatchesByteScanSpec)

/-- ITS FALSE NEIGHBOUR: 'it returns false'. Refute it at one input. -/
def fnBreaksLineMatchesByteScanWrong : ChangeSpec := { name := "fnBreaksLineMatchesByteScan", fn := fun _ => fun
  | [d1, d2] => { results := [.lit (.bool false)], args := [d1, d2] }
  | _ => none }
def FnBreaksLineMatchesByteScanWrongFalsely : Prop := fnBreaksLineMatchesByteScanRow.holds Try.pinned (OpenSpec.ofChange fnBreaksLineMatchesByteScanWrong)

/-- 'zzlaws_internal_endpoint_b1.FnBreaksLineAtAnyCut': WHATEVER THE INPUT: true; the input reads as it did. -/
def fnBreaksLineAtAnyCutSpec : ChangeSpec := { name := "fnBreaksLineAtAnyCut", fn := fun _ => fun
  | [d1, d2, d3] => { results := [.lit (.bool true)], args := [d1, d2, d3] }
  | _ => none }
def fnBreaksLineAtAnyCutRow : OpenClaim := { program := "qxb6619582a", sum := "5179b8c493d103b785f460dc95bcbd7c87665b66120b9c7325384ff81ec50a1e", func := "example.com/lifeline-for-nodes/lifeline-for-nodes/zzlaws_internal_endpoint_b1.FnBreaksLineAtAnyCut", spec := "fnBreaksLineAtAnyCut", apart := false }
def FnBreaksLineAtAnyCutSaid : Prop := fnBreaksLineAtAnyCutRow.holds Try.pinned (OpenSpec.ofChange fnBreaksLineAtAnyCutSpec)

/-- ITS FALSE NEIGHBOUR: 'it returns false'. Refute it at one input. -/
def fnBreaksLineAtAnyCutWrong : ChangeSpec := { name := "fnBreaksLineAtAnyCut", fn := fun _ => fun
  | [d1, d2, d3] => { results := [.lit (.bool false)], args := [d1, d2, d3] }
  | _ => none }
def FnBreaksLineAtAnyCutWrongFalsely : Prop := fnBreaksLineAtAnyCutRow.holds Try.pinned (OpenSpec.ofChange fnBreaksLineAtAnyCutWrong)

/-- 'zzlaws_internal_endpoint_b1.FnIsChunkedOneByteNeighbours': WHATEVER THE INPUT: true; the input reads as it did. -/
def fnIsChunkedOneByteNeighboursSpec : ChangeSpec := { name := "fnIsChunkedOneByteNeighbours", fn := fun _ => fun
  | [d1, d2, d3] => { results := [.lit (.bool true)], args := [d1, d2, d3] }
  | _ => none }
def fnIsChunkedOneByteNeighboursRow : OpenClaim := { program := "qxb6619582a", sum := "5179b8c493d103b785f460dc95bcbd7c87665b66120b9c7325384ff81ec50a1e", func := "example.com/lifeline-for-nodes/lifeline-for-nodes/zzlaws_internal_endpoint_b1.FnIsChunkedOneByteNeighbours", spec := "fnIsChunkedOneByteNeighbours", apart := false }
def FnIsChunkedOneByteNeighboursSaid : Prop := fnIsChunkedOneByteNeighboursRow.holds Try.pinned (OpenSpec.ofChange fnIsChunkedOneByteNeighboursSpec)

/-- ITS FALSE NEIGHBOUR: 'it returns false'. Refute it at one input. -/
def fnIsChunkedOneByteNeighboursWrong : ChangeSpec := { name := "fnIsChunkedOneByteNeighbours", fn := fun _ => fun
  | [d1, d2, d3] => { results := [.lit (.bool false)], args := [d1, d2, d3] }
  | _ => none }
def FnIsChunkedOneByteNeighboursWrongFalsely : Prop := fnIsChunkedOneByteNeighboursRow.holds Try.pinned (OpenSpec.ofChange fnIsChunkedOneByteNeighboursWrong)

end Rows
end Go.Proofs.Qxb6619582a
