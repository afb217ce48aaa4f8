/-
  No cell of these rows narrows 'for every input' (looked for: loops, veiled, ifaces, maps, wideKeys, modest, calm, conditions, laid).
  DERIVED. THE GIVEN ROWS OF THIS SEAT. 4 by the template 'for every input the law returns true; each argument reads behind the call as it read before'; 0 by the template 'total and deterministic' (their statements: Qxb6602056aTotals.lean).
  GIVEN WITH THE SEED: the statements are not yours to turn. If you find one false, say at which input.
  Laid BY PROGRAM, IN A SANDBOX (cutbox-rows.mjs): the forced cells as the released guide's own fill.sh prints them over the translation 3835f75047b8fbfe… (all of the seat's roots in one cut). By AI agents, Wed Nov 11 2026. No macro, syntax, notation, axiom, sorry.
-/
import Derived.Test.Qxb6602056aChecked
import GoSem.Claim
import GoSem.ClaimJoined
import GoSem.ClaimMapViews
import Derived.JoinedTies
import Derived.KernelRfl
namespace Go.Proofs.Qxb6602056a
/- THE CELL 'sum', in the pinned program and in every row, IS THE sha256 OF THE DUMP (.gsa) THAT Qxb6602056aProg.lean LOADS. Nothing in Lean hashes anything: it is a label: what it is worth is what the hold of that sum in a sandbox is worth. -/
noncomputable def Try.pinned : Pinned := { name := "qxb6602056a", sum := "3835f75047b8fbfe677e2f771d5179baa30898aef9a81f032d9423ba979fbc45", checked := Try.checked }
namespace Rows
def none {H : Type} : Left H := { results := [], args := [] }

/-- 'zzlaws_text_b1.FnMoveGapSpec': WHATEVER THE INPUT: true; the input reads as it did. -/
def fnMoveGapSpecSpec : ChangeSpec := { name := "fnMoveGapSpec", fn := fun _ => fun
  | [d1, d2, d3, d4, d5, d6, d7] => { results := [.lit (.bool true)], args := [d1, d2, d3, d4, d5, d6, d7] }
  | _ => none }
def fnMoveGapSpecRow : OpenClaim := { program := "qxb6602056a", sum := "3835f75047b8fbfe677e2f771d5179baa30898aef9a81f032d9423ba979fbc45", func := "example.com/runeloom/runeloom/zzlaws_text_b1.FnMoveGapSpec", spec := "fnMoveGapSpec", apart := false }
def FnMoveGapSpecSaid : Prop := fnMoveGapSpecRow.holds Try.pinned (OpenSpec.ofChange fnMoveGapSpecSpec)

/-- ITS FALSE NEIGHBOUR: 'it returns false'. Refute it at one input. -/
def fnMoveGapSpecWrong : ChangeSpec := { name := "fnMoveGapSpec", fn := fun _ => fun
  | [d1, d2, d3, d4, d5, d6, d7] => { results := [.lit (.bool false)], args := [d1, d2, d3, d4, d5, d6, d7] }
  | _ => none }
def FnMoveGapSpecWrongFalsely : Prop := fnMoveGapSpecRow.holds Try.pinned (OpenSpec.ofChange fnMoveGapSpecWrong)

/-- 'zzlaws_text_b1.FnMoveGapPathFree': WHATEVER THE INPUT: true; the input reads as it did. -/
def fnMoveGapPathFreeSpec : ChangeSpec := { name := "fnMoveGapPathFree", fn := fun _ => fun
  | [d1, d2, d3, d4, d5, d6, d7, d8] => { results := [.lit (.bool true)], args := [d1, d2, d3, d4, d5, d6, d7, d8] }
  | _ => none }
def fnMoveGapPathFreeRow : OpenClaim := { program := "qxb6602056a", sum := "3835f75047b8fbfe677e2f771d5179baa30898aef9a81f032d9423ba979fbc45", func := "example.com/runeloom/runeloom/zzlaws_text_b1.FnMoveGapPathFree", spec := "fnMoveGapPathFree", apart := false }
def FnMoveGapPathFreeSaid : Prop := fnMoveGapPathFreeRow.holds Try.pinned (OpenSpec.ofChange fnMoveGapPathFreeSpec)

/-- ITS FALSE NEIGHBOUR: 'it returns false'. Refute it at one input. -/
def fnMoveGapPathFreeWrong : ChangeSpec := { name := "fnMoveGapPathFree", fn := fun _ => fun
  | [d1, d2, d3, d4, d5, d6, d7, d8] => { results := [.lit (.bool false)], args := [d1, d2, d3, d4, d5, d6, d7, d8] }
  | _ => none }
def FnMoveGapPathFreeWrongFalsely : Prop := fnMoveGapPathFreeRow.holds Try.pinned (OpenSpec.ofChange fnMoveGapPathFreeWrong)

/-- 'zzlaws_text_b1.FnReserveSettles': WHATEVER THE INPUT: true; the input reads as it did. -/
def fnReserveSettlesSpec : ChangeSpec := { name := "fnReserveSettles", fn := fun _ => fun
  | [d1, d2, d3, d4, d5, d6, d7, d8] => { results := [.lit (.bool true)], args := [d1, d2, d3, d4, d5, d6, d7, d8] }
  | _ => none }
def fnReserveSettlesRow : OpenClaim := { program := "qxb6602056a", sum := "3835f75047b8fbfe677e2f771d5179baa30898aef9a81f032d9423ba979fbc45", func := "example.com/runeloom/runeloom/zzlaws_text_b1.FnReserveSettles", spec := "fnReserveSettles", apart := false }
def FnReserveSettlesSaid : Prop := fnReserveSettlesRow.holds Try.pinned (OpenSpec.ofChange fnReserveSettlesSpec)

/-- ITS FALSE NEIGHBOUR: 'it returns false'. Refute it at one input. -/
def fnReserveSettlesWrong : ChangeSpec := { name := "fnReserveSettles", fn := fun _ => fun
  | [d1, d2, d3, d4, d5, d6, d7, d8] => { results := [.lit (.bool false)], args := [d1, d2, d3, d4, d5, d6, d7, d8] }
  | _ => none }
def FnReserveSettlesWrongFalsely : Prop := fnReserveSettlesRow.holds Try.pinned (OpenSpec.ofChange fnReserveSettlesWrong)

/-- 'zzlaws_text_b1.FnReserveSpec': WHATEVER THE INPUT: true; the input reads as it did. -/
def fnReserveSpecSpec : ChangeSpec := { name := "fnReserveSpec", fn := fun _ => fun
  | [d1, d2, d3, d4, d5, d6, d7] => { results := [.lit (.bool true)], args := [d1, d2, d3, d4, d5, d6, d7] }
  | _ => none }
def fnReserveSpecRow : OpenClaim := { program := "qxb6602056a", sum := "3835f75047b8fbfe677e2f771d5179baa30898aef9a81f032d9423ba979fbc45", func := "example.com/runeloom/runeloom/zzlaws_text_b1.FnReserveSpec", spec := "fnReserveSpec", apart := false }
def FnReserveSpecSaid : Prop := fnReserveSpecRow.holds Try.pinned (OpenSpec.ofChange fnReserveSpecSpec)

/-- ITS FALSE NEIGHBOUR: 'it returns false'. Refute it at one input. -/
def fnReserveSpecWrong : ChangeSpec := { name := "fnReserveSpec", fn := fun _ => fun
  | [d1, d2, d3, d4, d5, d6, d7] => { results := [.lit (.bool false)], args := [d1, d2, d3, d4, d5, d6, d7] }
  | _ => none }
def FnReserveSpecWrongFalsely : Prop := fnReserveSpecRow.holds Try.pinned (OpenSpec.ofChange fnReserveSpecWrong)

end Rows
end Go.Proofs.Qxb6602056a
