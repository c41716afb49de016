/-
  No cell of these rows narrows 'for every input' (looked for: loops, veiled, ifaces, maps, wideKeys, modest, calm, conditions, laid).
  DERIVED. THE GIVEN ROWS OF THIS SEAT. 5 by the template 'for every input the law returns true; each argument reads behind the call as it read before'; 0 by the template 'total and deterministic' (their statements: Qxb6605330aTotals.lean).
  GIVEN WITH THE SEED: the statements are not yours to turn. If you find one false, say at which input.
  Laid BY PROGRAM, IN A SANDBOX (cutbox-rows.mjs): the forced cells as the released guide's own fill.sh prints them over the translation ccf600488c6e55f5… (all of the seat's roots in one cut). By AI agents, Wed Nov 11 2026. No macro, syntax, notation, axiom, sorry.
-/
import Derived.Test.Qxb6605330aChecked
import GoSem.Claim
import GoSem.ClaimJoined
import GoSem.ClaimMapViews
import Derived.JoinedTies
import Derived.KernelRfl
namespace Go.Proofs.Qxb6605330a
/- THE CELL 'sum', in the pinned program and in every row, IS THE sha256 OF THE DUMP (.gsa) THAT Qxb6605330aProg.lean LOADS. Nothing in Lean hashes anything: it is a label: what it is worth is what the hold of that sum in a sandbox is worth. -/
noncomputable def Try.pinned : Pinned := { name := "qxb6605330a", sum := "ccf600488c6e55f585207481f74390a5869af2c4cffa67203d42f2608fa7f4a9", checked := Try.checked }
namespace Rows
def none {H : Type} : Left H := { results := [], args := [] }

/-- 'zzlaws_internal_bencode_b1.FnShortNumberExact': WHATEVER THE INPUT: true; the input reads as it did. -/
def fnShortNumberExactSpec : ChangeSpec := { name := "fnShortNumberExact", fn := fun _ => fun
  | [d1, d2, d3, d4, d5] => { results := [.lit (.bool true)], args := [d1, d2, d3, d4, d5] }
  | _ => none }
def fnShortNumberExactRow : OpenClaim := { program := "qxb6605330a", sum := "ccf600488c6e55f585207481f74390a5869af2c4cffa67203d42f2608fa7f4a9", func := "example.com/xorbit/xorbit/zzlaws_internal_bencode_b1.FnShortNumberExact", spec := "fnShortNumberExact", apart := false }
def FnShortNumberExactSaid : Prop := fnShortNumberExactRow.holds Try.pinned (OpenSpec.ofChange fnShortNumberExactSpec)

/-- ITS FALSE NEIGHBOUR: 'it returns false'. Refute it at one input. -/
def fnShortNumberExactWrong : ChangeSpec := { name := "fnShortNumberExact", fn := fun _ => fun
  | [d1, d2, d3, d4, d5] => { results := [.lit (.bool false)], args := [d1, d2, d3, d4, d5] }
  | _ => none }
def FnShortNumberExactWrongFalsely : Prop := fnShortNumberExactRow.holds Try.pinned (OpenSpec.ofChange fnShortNumberExactWrong)

/-- 'zzlaws_internal_bencode_b1.FnShortNumberReadsCanonical': WHATEVER THE INPUT: true; the input reads as it did. -/
def fnShortNumberReadsCanonicalSpec : ChangeSpec := { name := "fnShortNumberReadsCanonical", fn := fun _ => fun
  | [d1, d2, d3, d4, d5, d6] => { results := [.lit (.bool true)], args := [d1, d2, d3, d4, d5, d6] }
  | _ => none }
def fnShortNumberReadsCanonicalRow : OpenClaim := { program := "qxb6605330a", sum := "ccf600488c6e55f585207481f74390a5869af2c4cffa67203d42f2608fa7f4a9", func := "example.com/xorbit/xorbit/zzlaws_internal_bencode_b1.FnShortNumberReadsCanonical", spec := "fnShortNumberReadsCanonical", apart := false }
def FnShortNumberReadsCanonicalSaid : Prop := fnShortNumberReadsCanonicalRow.holds Try.pinned (OpenSpec.ofChange fnShortNumberReadsCanonicalSpec)

/-- ITS FALSE NEIGHBOUR: 'it returns false'. Refute it at one input. -/
def fnShortNumberReadsCanonicalWrong : ChangeSpec := { name := "fnShortNumberReadsCanonical", fn := fun _ => fun
  | [d1, d2, d3, d4, d5, d6] => { results := [.lit (.bool false)], args := [d1, d2, d3, d4, d5, d6] }
  | _ => none }
def FnShortNumberReadsCanonicalWrongFalsely : Prop := fnShortNumberReadsCanonicalRow.holds Try.pinned (OpenSpec.ofChange fnShortNumberReadsCanonicalWrong)

/-- 'zzlaws_internal_bencode_b1.FnSkipStringExact': WHATEVER THE INPUT: true; the input reads as it did. -/
def fnSkipStringExactSpec : ChangeSpec := { name := "fnSkipStringExact", fn := fun _ => fun
  | [d1, d2, d3] => { results := [.lit (.bool true)], args := [d1, d2, d3] }
  | _ => none }
def fnSkipStringExactRow : OpenClaim := { program := "qxb6605330a", sum := "ccf600488c6e55f585207481f74390a5869af2c4cffa67203d42f2608fa7f4a9", func := "example.com/xorbit/xorbit/zzlaws_internal_bencode_b1.FnSkipStringExact", spec := "fnSkipStringExact", apart := false }
def FnSkipStringExactSaid : Prop := fnSkipStringExactRow.holds Try.pinned (OpenSpec.ofChange fnSkipStringExactSpec)

/-- ITS FALSE NEIGHBOUR: 'it returns false'. Refute it at one input. -/
def fnSkipStringExactWrong : ChangeSpec := { name := "fnSkipStringExact", fn := fun _ => fun
  | [d1, d2, d3] => { results := [.lit (.bool false)], args := [d1, d2, d3] }
  | _ => none }
def FnSkipStringExactWrongFalsely : Prop := fnSkipStringExactRow.holds Try.pinned (OpenSpec.ofChange fnSkipStringExactWrong)

/-- 'zzlaws_internal_bencode_b1.FnSkipStringRoundTrip': WHATEVER THE INPUT: true; the input reads as it did. -/
def fnSkipStringRoundTripSpec : ChangeSpec := { name := "fnSkipStringRoundTrip", fn := fun _ => fun
  | [d1, d2, d3, d4] => { results := [.lit (.bool true)], args := [d1, d2, d3, d4] }
  | _ => none }
def fnSkipStringRoundTripRow : OpenClaim := { program := "qxb6605330a", sum := "ccf600488c6e55f585207481f74390a5869af2c4cffa67203d42f2608fa7f4a9", func := "example.com/xorbit/xorbit/zzlaws_internal_bencode_b1.FnSkipStringRoundTrip", spec := "fnSkipStringRoundTrip", apart := false }
def FnSkipStringRoundTripSaid : Prop := fnSkipStringRoundTripRow.holds Try.pinned (OpenSpec.ofChange fnSkipStringRoundTripSpec)

/-- ITS FALSE NEIGHBOUR: 'it returns false'. Refute it at one input. -/
def fnSkipStringRoundTripWrong : ChangeSpec := { name := "fnSkipStringRoundTrip", fn := fun _ => fun
  | [d1, d2, d3, d4] => { results := [.lit (.bool false)], args := [d1, d2, d3, d4] }
  | _ => none }
def FnSkipStringRoundTripWrongFalsely : Prop := fnSkipStringRoundTripRow.holds Try.pinned (OpenSpec.ofChange fnSkipStringRoundTripWrong)

/-- 'zzlaws_internal_bencode_b1.FnSkipExact': WHATEVER THE INPUT: true; the input reads as it did. -/
def fnSkipExactSpec : ChangeSpec := { name := "fnSkipExact", fn := fun _ => fun
  | [d1, d2, d3] => { results := [.lit (.bool true)], args := [d1, d2, d3] }
  | _ => none }
def fnSkipExactRow : OpenClaim := { program := "qxb6605330a", sum := "ccf600488c6e55f585207481f74390a5869af2c4cffa67203d42f2608fa7f4a9", func := "example.com/xorbit/xorbit/zzlaws_internal_bencode_b1.FnSkipExact", spec := "fnSkipExact", inPlace := ["internal/bytealg.IndexByteString"], recurses := true, apart := false }
def FnSkipExactSaid : Prop := fnSkipExactRow.holds Try.pinned (OpenSpec.ofChange fnSkipExactSpec)

/-- ITS FALSE NEIGHBOUR: 'it returns false'. Refute it at one input. -/
def fnSkipExactWrong : ChangeSpec := { name := "fnSkipExact", fn := fun _ => fun
  | [d1, d2, d3] => { results := [.lit (.bool false)], args := [d1, d2, d3] }
  | _ => none }
def FnSkipExactWrongFalsely : Prop := fnSkipExactRow.holds Try.pinned (OpenSpec.ofChange fnSkipExactWrong)

end Rows
end Go.Proofs.Qxb6605330a
