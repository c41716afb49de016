/-
  No cell of these rows narrows 'for every input' (looked for: loops, veiled, ifaces, maps, wideKeys, modest, calm, conditions, laid).
  DERIVED. THE GIVEN ROWS OF THIS SEAT. 3 by the template 'for every input the law returns true; each argument reads behind the call as it read before'; 0 by the template 'total and deterministic' (their statements: Qxb6605344aTotals.lean).
  GIVEN WITH THE SEED: the statements are not yours to turn. If you find one false, say at which input.
  Laid BY PROGRAM, IN A SANDBOX (cutbox-rows.mjs): the forced cells as the released guide's own fill.sh prints them over the translation fac73a3b679f222c… (all of the seat's roots in one cut). By AI agents, Wed Nov 11 2026. No macro, syntax, notation, axiom, sorry.
-/
import Derived.Test.Qxb6605344aChecked
import GoSem.Claim
import GoSem.ClaimJoined
import GoSem.ClaimMapViews
import Derived.JoinedTies
import Derived.KernelRfl
namespace Go.Proofs.Qxb6605344a
/- THE CELL 'sum', in the pinned program and in every row, IS THE sha256 OF THE DUMP (.gsa) THAT Qxb6605344aProg.lean LOADS. Nothing in Lean hashes anything: it is a label: what it is worth is what the hold of that sum in a sandbox is worth. -/
noncomputable def Try.pinned : Pinned := { name := "qxb6605344a", sum := "fac73a3b679f222ccbdb9b72c7febc041c0611294044470dfdcb83514bb2a983", checked := Try.checked }
namespace Rows
def none {H : Type} : Left H := { results := [], args := [] }

/-- 'zzlaws_root_b1.FnCoprimesMatchSieve': WHATEVER THE INPUT: true; the input reads as it did. -/
def fnCoprimesMatchSieveSpec : ChangeSpec := { name := "fnCoprimesMatchSieve", fn := fun _ => fun
  | [d] => { results := [.lit (.bool true)], args := [d] }
  | _ => none }
def fnCoprimesMatchSieveRow : OpenClaim := { program := "qxb6605344a", sum := "fac73a3b679f222ccbdb9b72c7febc041c0611294044470dfdcb83514bb2a983", func := "example.com/coroutine-dispatcher/coroutine-dispatcher/zzlaws_root_b1.FnCoprimesMatchSieve", spec := "fnCoprimesMatchSieve", apart := false }
def FnCoprimesMatchSieveSaid : Prop := fnCoprimesMatchSieveRow.holds Try.pinned (OpenSpec.ofChange fnCoprimesMatchSieveSpec)

/-- ITS FALSE NEIGHBOUR: 'it returns false'. Refute it at one input. -/
def fnCoprimesMatchSieveWrong : ChangeSpec := { name := "fnCoprimesMatchSieve", fn := fun _ => fun
  | [d] => { results := [.lit (.bool false)], args := [d] }
  | _ => none }
def FnCoprimesMatchSieveWrongFalsely : Prop := fnCoprimesMatchSieveRow.holds Try.pinned (OpenSpec.ofChange fnCoprimesMatchSieveWrong)

/-- 'zzlaws_root_b1.FnCoprimesCountIsTotientAndSymmetric': WHATEVER THE INPUT: true; the input reads as it did. -/
def fnCoprimesCountIsTotientAndSymmetricSpec : ChangeSpec := { name := "fnCoprimesCountIsTotientAndSymmetric", fn := fun _ => fun
  | [d] => { results := [.lit (.bool true)], args := [d] }
  | _ => none }
def fnCoprimesCountIsTotientAndSymmetricRow : OpenClaim := { program := "qxb6605344a", sum := "fac73a3b679f222ccbdb9b72c7febc041c0611294044470dfdcb83514bb2a983", func := "example.com/coroutine-dispatcher/coroutine-dispatcher/zzlaws_root_b1.FnCoprimesCountIsTotientAndSymmetric", spec := "fnCoprimesCountIsTotientAndSymmetric", apart := false }
def FnCoprimesCountIsTotientAndSymmetricSaid : Prop := fnCoprimesCountIsTotientAndSymmetricRow.holds Try.pinned (OpenSpec.ofChange fnCoprimesCountIsTotientAndSymmetricSpec)

/-- ITS FALSE NEIGHBOUR: 'it returns false'. Refute it at one input. -/
def fnCoprimesCountIsTotientAndSymmetricWrong : ChangeSpec := { name := "fnCoprimesCountIsTotientAndSymmetric", fn := fun _ => fun
  | [d] => { results := [.lit (.bool false)], args := [d] }
  | _ => none }
def FnCoprimesCountIsTotientAndSymmetricWrongFalsely : Prop := fnCoprimesCountIsTotientAndSymmetricRow.holds Try.pinned (OpenSpec.ofChange fnCoprimesCountIsTotientAndSymmetricWrong)

/-- 'zzlaws_root_b1.FnCoprimesDivisorSumIsN': WHATEVER THE INPUT: true; the input reads as it did. -/
def fnCoprimesDivisorSumIsNSpec : ChangeSpec := { name := "fnCoprimesDivisorSumIsN", fn := fun _ => fun
  | [d] => { results := [.lit (.bool true)], args := [d] }
  | _ => none }
def fnCoprimesDivisorSumIsNRow : OpenClaim := { program := "qxb6605344a", sum := "fac73a3b679f222ccbdb9b72c7febc041c0611294044470dfdcb83514bb2a983", func := "example.com/coroutine-dispatcher/coroutine-dispatcher/zzlaws_root_b1.FnCoprimesDivisorSumIsN", spec := "fnCoprimesDivisorSumIsN", apart := false }
def FnCoprimesDivisorSumIsNSaid : Prop := fnCoprimesDivisorSumIsNRow.holds Try.pinned (OpenSpec.ofChange fnCoprimesDivisorSumIsNSpec)

/-- ITS FALSE NEIGHBOUR: 'it returns false'. Refute it at one input. -/
def fnCoprimesDivisorSumIsNWrong : ChangeSpec := { name := "fnCoprimesDivisorSumIsN", fn := fun _ => fun
  | [d] => { results := [.lit (.bool false)], args := [d] }
  | _ => none }
def FnCoprimesDivisorSumIsNWrongFalsely : Prop := fnCoprimesDivisorSumIsNRow.holds Try.pinned (OpenSpec.ofChange fnCoprimesDivisorSumIsNWrong)

end Rows
end Go.Proofs.Qxb6605344a
