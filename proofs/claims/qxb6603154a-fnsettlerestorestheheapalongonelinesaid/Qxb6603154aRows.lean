/-
  No cell of these rows narrows 'for every input' (looked for: loops, veiled, ifaces, maps, wideKeys, modest, calm, conditions, laid).
  DERIVED. THE GIVEN ROWS OF THIS SEAT. 2 by the template 'for every input the law returns true; each argument reads behind the call as it read before'; 0 by the template 'total and deterministic' (their statements: Qxb6603154aTotals.lean).
  GIVEN WITH THE SEED: the statements are not yours to turn. If you find one false, say at which input.
  Laid BY PROGRAM, IN A SANDBOX (cutbox-rows.mjs): the forced cells as the released guide's own fill.sh prints them over the translation 7044f6656873d11f… (all of the seat's roots in one cut). By AI agents, Wed Nov 11 2026. No macro, syntax, notation, axiom, sorry.
-/
import Derived.Test.Qxb6603154aChecked
import GoSem.Claim
import GoSem.ClaimJoined
import GoSem.ClaimMapViews
import Derived.JoinedTies
import Derived.KernelRfl
namespace Go.Proofs.Qxb6603154a
/- THE CELL 'sum', in the pinned program and in every row, IS THE sha256 OF THE DUMP (.gsa) THAT Qxb6603154aProg.lean LOADS. Nothing in Lean hashes anything: it is a label: what it is worth is what the hold of that sum in a sandbox is worth. -/
noncomputable def Try.pinned : Pinned := { name := "qxb6603154a", sum := "7044f6656873d11f09976f41031a79c7201a6919ad7d6ae83fcf8655079e6853", checked := Try.checked }
namespace Rows
def none {H : Type} : Left H := { results := [], args := [] }

/-- 'zzlaws_root_b1.FnSettleRestoresTheHeapAlongOneLine': WHATEVER THE INPUT: true; the input reads as it did. -/
def fnSettleRestoresTheHeapAlongOneLineSpec : ChangeSpec := { name := "fnSettleRestoresTheHeapAlongOneLine", fn := fun _ => fun
  | [d1, d2, d3, d4, d5] => { results := [.lit (.bool true)], args := [d1, d2, d3, d4, d5] }
  | _ => none }
def fnSettleRestoresTheHeapAlongOneLineRow : OpenClaim := { program := "qxb6603154a", sum := "7044f6656873d11f09976f41031a79c7201a6919ad7d6ae83fcf8655079e6853", func := "example.com/latchwork/latchwork/zzlaws_root_b1.FnSettleRestoresTheHeapAlongOneLine", spec := "fnSettleRestoresTheHeapAlongOneLine", apart := false }
def FnSettleRestoresTheHeapAlongOneLineSaid : Prop := fnSettleRestoresTheHeapAlongOneLineRow.holds Try.pinned (OpenSpec.ofChange fnSettleRestoresTheHeapAlongOneLineSpec)

/-- ITS FALSE NEIGHBOUR: 'it returns false'. Refute it at one input. -/
def fnSettleRestoresTheHeapAlongOneLineWrong : ChangeSpec := { name := "fnSettleRestoresTheHeapAlongOneLine", fn := fun _ => fun
  | [d1, d2, d3, d4, d5] => { results := [.lit (.bool false)], args := [d1, d2, d3, d4, d5] }
  | _ => none }
def FnSettleRestoresTheHeapAlongOneLineWrongFalsely : Prop := fnSettleRestoresTheHeapAlongOneLineRow.holds Try.pinned (OpenSpec.ofChange fnSettleRestoresTheHeapAlongOneLineWrong)

/-- 'zzlaws_root_b1.FnSettleLeavesAValidHeapAsItIs': WHATEVER THE INPUT: true; the input reads as it did. -/
def fnSettleLeavesAValidHeapAsItIsSpec : ChangeSpec := { name := "fnSettleLeavesAValidHeapAsItIs", fn := fun _ => fun
  | [d1, d2, d3, d4, d5] => { results := [.lit (.bool true)], args := [d1, d2, d3, d4, d5] }
  | _ => none }
def fnSettleLeavesAValidHeapAsItIsRow : OpenClaim := { program := "qxb6603154a", sum := "7044f6656873d11f09976f41031a79c7201a6919ad7d6ae83fcf8655079e6853", func := "example.com/latchwork/latchwork/zzlaws_root_b1.FnSettleLeavesAValidHeapAsItIs", spec := "fnSettleLeavesAValidHeapAsItIs", apart := false }
def FnSettleLeavesAValidHeapAsItIsSaid : Prop := fnSettleLeavesAValidHeapAsItIsRow.holds Try.pinned (OpenSpec.ofChange fnSettleLeavesAValidHeapAsItIsSpec)

/-- ITS FALSE NEIGHBOUR: 'it returns false'. Refute it at one input. -/
def fnSettleLeavesAValidHeapAsItIsWrong : ChangeSpec := { name := "fnSettleLeavesAValidHeapAsItIs", fn := fun _ => fun
  | [d1, d2, d3, d4, d5] => { results := [.lit (.bool false)], args := [d1, d2, d3, d4, d5] }
  | _ => none }
def FnSettleLeavesAValidHeapAsItIsWrongFalsely : Prop := fnSettleLeavesAValidHeapAsItIsRow.holds Try.pinned (OpenSpec.ofChange fnSettleLeavesAValidHeapAsItIsWrong)

end Rows
end Go.Proofs.Qxb6603154a
