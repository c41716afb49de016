/-
  No cell of these rows narrows 'for every input' (looked for: loops, veiled, ifaces, maps, wideKeys, modest, calm, conditions, laid).
  DERIVED. THE GIVEN ROWS OF THIS SEAT. 2 by the template 'for every input the law returns true; each argument reads behind the call as it read before'; 0 by the template 'total and deterministic' (their statements: Qxb6600573aTotals.lean).
  GIVEN WITH THE SEED: the statements are not yours to turn. If you find one false, say at which input.
  Laid BY PROGRAM, IN A SANDBOX (cutbox-rows.mjs): the forced cells as the released guide's own fill.sh prints them over the translation d0f7635e7c2e0721… (all of the seat's roots in one cut). By AI agents, Wed Nov 11 2026. No macro, syntax, notation, axiom, sorry.
-/
import Derived.Test.Qxb6600573aChecked
import GoSem.Claim
import GoSem.ClaimJoined
import GoSem.ClaimMapViews
import Derived.JoinedTies
import Derived.KernelRfl
namespace Go.Proofs.Qxb6600573a
/- THE CELL 'sum', in the pinned program and in every row, IS THE sha256 OF THE DUMP (.gsa) THAT Qxb6600573aProg.lean LOADS. Nothing in Lean hashes anything: it is a label: what it is worth is what the hold of that sum in a sandbox is worth. -/
noncomputable def Try.pinned : Pinned := { name := "qxb6600573a", sum := "d0f7635e7c2e07219a67e7bda999525d923385dca71444a9cd7ce173f528f6c3", checked := Try.checked }
namespace Rows
def none {H : Type} : Left H := { results := [], args := [] }

/-- 'zzlaws_internal_capture_b1.FnMinBodyLengthShape': WHATEVER THE INPUT: true; the input reads as it did. -/
def fnMinBodyLengthShapeSpec : ChangeSpec := { name := "fnMinBodyLengthShape", fn := fun _ => fun
  | [d] => { results := [.lit (.bool true)], args := [d] }
  | _ => none }
def fnMinBodyLengthShapeRow : OpenClaim := { program := "qxb6600573a", sum := "d0f7635e7c2e07219a67e7bda999525d923385dca71444a9cd7ce173f528f6c3", func := "example.com/ashgrove/ashgrove/zzlaws_internal_capture_b1.FnMinBodyLengthShape", spec := "fnMinBodyLengthShape", apart := false }
def FnMinBodyLengthShapeSaid : Prop := fnMinBodyLengthShapeRow.holds Try.pinned (OpenSpec.ofChange fnMinBodyLengthShapeSpec)

/-- ITS FALSE NEIGHBOUR: 'it returns false'. Refute it at one input. -/
def fnMinBodyLengthShapeWrong : ChangeSpec := { name := "fnMinBodyLengthShape", fn := fun _ => fun
  | [d] => { results := [.lit (.bool false)], args := [d] }
  | _ => none }
def FnMinBodyLengthShapeWrongFalsely : Prop := fnMinBodyLengthShapeRow.holds Try.pinned (OpenSpec.ofChange fnMinBodyLengthShapeWrong)

/-- 'zzlaws_internal_capture_b1.FnMinBodyLengthByteOrderUnambiguous': WHATEVER THE INPUT: true; the input reads as it did. -/
def fnMinBodyLengthByteOrderUnambiguousSpec : ChangeSpec := { name := "fnMinBodyLengthByteOrderUnambiguous", fn := fun _ => fun
  | [d] => { results := [.lit (.bool true)], args := [d] }
  | _ => none }
def fnMinBodyLengthByteOrderUnambiguousRow : OpenClaim := { program := "qxb6600573a", sum := "d0f7635e7c2e07219a67e7bda999525d923385dca71444a9cd7ce173f528f6c3", func := "example.com/ashgrove/ashgrove/zzlaws_internal_capture_b1.FnMinBodyLengthByteOrderUnambiguous", spec := "fnMinBodyLengthByteOrderUnambiguous", apart := false }
def FnMinBodyLengthByteOrderUnambiguousSaid : Prop := fnMinBodyLengthByteOrderUnambiguousRow.holds Try.pinned (OpenSpec.ofChange fnMinBodyLengthByteOrderUnambiguousSpec)

/-- ITS FALSE NEIGHBOUR: 'it returns false'. Refute it at one input. -/
def fnMinBodyLengthByteOrderUnambiguousWrong : ChangeSpec := { name := "fnMinBodyLengthByteOrderUnambiguous", fn := fun _ => fun
  | [d] => { results := [.lit (.bool false)], args := [d] }
  | _ => none }
def FnMinBodyLengthByteOrderUnambiguousWrongFalsely : Prop := fnMinBodyLengthByteOrderUnambiguousRow.holds Try.pinned (OpenSpec.ofChange fnMinBodyLengthByteOrderUnambiguousWrong)

end Rows
end Go.Proofs.Qxb6600573a
