/-
  No cell of these rows narrows 'for every input' (looked for: loops, veiled, ifaces, maps, wideKeys, modest, calm, conditions, laid).
  DERIVED. THE GIVEN ROWS OF THIS SEAT. 3 by the template 'for every input the law returns true; each argument reads behind the call as it read before'; 0 by the template 'total and deterministic' (their statements: Qxb6621641aTotals.lean).
  GIVEN WITH THE SEED: the statements are not yours to turn. If you find one false, say at which input.
  Laid BY PROGRAM, IN A SANDBOX (cutbox-rows.mjs): the forced cells as the released guide's own fill.sh prints them over the translation 8da0ffb80b14ffdc… (all of the seat's roots in one cut). By AI agents, Wed Nov 11 2026. No macro, syntax, notation, axiom, sorry.
-/
import Derived.Test.Qxb6621641aChecked
import GoSem.Claim
import GoSem.ClaimJoined
import GoSem.ClaimMapViews
import Derived.JoinedTies
import Derived.KernelRfl
namespace Go.Proofs.Qxb6621641a
/- THE CELL 'sum', in the pinned program and in every row, IS THE sha256 OF THE DUMP (.gsa) THAT Qxb6621641aProg.lean LOADS. Nothing in Lean hashes anything: it is a label: what it is worth is what the hold of that sum in a sandbox is worth. -/
noncomputable def Try.pinned : Pinned := { name := "qxb6621641a", sum := "8da0ffb80b14ffdc5fc5da413c40fda0257afb87d739813b22a26b9dd9fbca9c", checked := Try.checked }
namespace Rows
def none {H : Type} : Left H := { results := [], args := [] }

/-- 'zzlaws_internal_cert_b1.FnBitStringAnyIsSomeSetBit': WHATEVER THE INPUT: true; the input reads as it did. -/
def fnBitStringAnyIsSomeSetBitSpec : ChangeSpec := { name := "fnBitStringAnyIsSomeSetBit", fn := fun _ => fun
  | [d1, d2] => { results := [.lit (.bool true)], args := [d1, d2] }
  | _ => none }
def fnBitStringAnyIsSomeSetBitRow : OpenClaim := { program := "qxb6621641a", sum := "8da0ffb80b14ffdc5fc5da413c40fda0257afb87d739813b22a26b9dd9fbca9c", func := "example.com/profilint/profilint/zzlaws_internal_cert_b1.FnBitStringAnyIsSomeSetBit", spec := "fnBitStringAnyIsSomeSetBit", apart := false }
def FnBitStringAnyIsSomeSetBitSaid : Prop := fnBitStringAnyIsSomeSetBitRow.holds Try.pinned (OpenSpec.ofChange fnBitStringAnyIsSomeSetBitSpec)

/-- ITS FALSE NEIGHBOUR: 'it returns false'. Refute it at one input. -/
def fnBitStringAnyIsSomeSetBitWrong : ChangeSpec := { name := "fnBitStringAnyIsSomeSetBit", fn := fun _ => fun
  | [d1, d2] => { results := [.lit (.bool false)], args := [d1, d2] }
  | _ => none }
def FnBitStringAnyIsSomeSetBitWrongFalsely : Prop := fnBitStringAnyIsSomeSetBitRow.holds Try.pinned (OpenSpec.ofChange fnBitStringAnyIsSomeSetBitWrong)

/-- 'zzlaws_internal_cert_b1.FnTimeTextDigitsReadsDecimal': WHATEVER THE INPUT: true; the input reads as it did. -/
def fnTimeTextDigitsReadsDecimalSpec : ChangeSpec := { name := "fnTimeTextDigitsReadsDecimal", fn := fun _ => fun
  | [d1, d2] => { results := [.lit (.bool true)], args := [d1, d2] }
  | _ => none }
def fnTimeTextDigitsReadsDecimalRow : OpenClaim := { program := "qxb6621641a", sum := "8da0ffb80b14ffdc5fc5da413c40fda0257afb87d739813b22a26b9dd9fbca9c", func := "example.com/profilint/profilint/zzlaws_internal_cert_b1.FnTimeTextDigitsReadsDecimal", spec := "fnTimeTextDigitsReadsDecimal", apart := false }
def FnTimeTextDigitsReadsDecimalSaid : Prop := fnTimeTextDigitsReadsDecimalRow.holds Try.pinned (OpenSpec.ofChange fnTimeTextDigitsReadsDecimalSpec)

/-- ITS FALSE NEIGHBOUR: 'it returns false'. Refute it at one input. -/
def fnTimeTextDigitsReadsDecimalWrong : ChangeSpec := { name := "fnTimeTextDigitsReadsDecimal", fn := fun _ => fun
  | [d1, d2] => { results := [.lit (.bool false)], args := [d1, d2] }
  | _ => none }
def FnTimeTextDigitsReadsDecimalWrongFalsely : Prop := fnTimeTextDigitsReadsDecimalRow.holds Try.pinned (OpenSpec.ofChange fnTimeTextDigitsReadsDecimalWrong)

/-- 'zzlaws_internal_cert_b1.FnTimeTextDigitsSplitsAtAnyCut': WHATEVER THE INPUT: true; the input reads as it did. -/
def fnTimeTextDigitsSplitsAtAnyCutSpec : ChangeSpec := { name := "fnTimeTextDigitsSplitsAtAnyCut", fn := fun _ => fun
  | [d1, d2, d3] => { results := [.lit (.bool true)], args := [d1, d2, d3] }
  | _ => none }
def fnTimeTextDigitsSplitsAtAnyCutRow : OpenClaim := { program := "qxb6621641a", sum := "8da0ffb80b14ffdc5fc5da413c40fda0257afb87d739813b22a26b9dd9fbca9c", func := "example.com/profilint/profilint/zzlaws_internal_cert_b1.FnTimeTextDigitsSplitsAtAnyCut", spec := "fnTimeTextDigitsSplitsAtAnyCut", apart := false }
def FnTimeTextDigitsSplitsAtAnyCutSaid : Prop := fnTimeTextDigitsSplitsAtAnyCutRow.holds Try.pinned (OpenSpec.ofChange fnTimeTextDigitsSplitsAtAnyCutSpec)

/-- ITS FALSE NEIGHBOUR: 'it returns false'. Refute it at one input. -/
def fnTimeTextDigitsSplitsAtAnyCutWrong : ChangeSpec := { name := "fnTimeTextDigitsSplitsAtAnyCut", fn := fun _ => fun
  | [d1, d2, d3] => { results := [.lit (.bool false)], args := [d1, d2, d3] }
  | _ => none }
def FnTimeTextDigitsSplitsAtAnyCutWrongFalsely : Prop := fnTimeTextDigitsSplitsAtAnyCutRow.holds Try.pinned (OpenSpec.ofChange fnTimeTextDigitsSplitsAtAnyCutWrong)

end Rows
end Go.Proofs.Qxb6621641a
