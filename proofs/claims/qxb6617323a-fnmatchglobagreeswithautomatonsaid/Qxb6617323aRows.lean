/-
  No cell of these rows narrows 'for every input' (looked for: loops, veiled, ifaces, maps, wideKeys, modest, calm, conditions, laid).
  DERIVED. THE GIVEN ROWS OF THIS SEAT. 3 by the template 'for every input the law returns true; each argument reads behind the call as it read before'; 0 by the template 'total and deterministic' (their statements: Qxb6617323aTotals.lean).
  GIVEN WITH THE SEED: the statements are not yours to turn. If you find one false, say at which input.
  Laid BY PROGRAM, IN A SANDBOX (cutbox-rows.mjs): the forced cells as the released guide's own fill.sh prints them over the translation b0caa93c733970df… (all of the seat's roots in one cut). By AI agents, Wed Nov 11 2026. No macro, syntax, notation, axiom, sorry.
-/
import Derived.Test.Qxb6617323aChecked
import GoSem.Claim
import GoSem.ClaimJoined
import GoSem.ClaimMapViews
import Derived.JoinedTies
import Derived.KernelRfl
namespace Go.Proofs.Qxb6617323a
/- THE CELL 'sum', in the pinned program and in every row, IS THE sha256 OF THE DUMP (.gsa) THAT Qxb6617323aProg.lean LOADS. Nothing in Lean hashes anything: it is a label: what it is worth is what the hold of that sum in a sandbox is worth. -/
noncomputable def Try.pinned : Pinned := { name := "qxb6617323a", sum := "b0caa93c733970dfe11adf1fec1e55356218a6a16826f26538f008a731650c72", checked := Try.checked }
namespace Rows
def none {H : Type} : Left H := { results := [], args := [] }

/-- 'zzlaws_pkg_ignore_b1.FnBracketBangNegates': WHATEVER THE INPUT: true; the input reads as it did. -/
def fnBracketBangNegatesSpec : ChangeSpec := { name := "fnBracketBangNegates", fn := fun _ => fun
  | [d1, d2, d3] => { results := [.lit (.bool true)], args := [d1, d2, d3] }
  | _ => none }
def fnBracketBangNegatesRow : OpenClaim := { program := "qxb6617323a", sum := "b0caa93c733970dfe11adf1fec1e55356218a6a16826f26538f008a731650c72", func := "example.com/stowage/stowage/zzlaws_pkg_ignore_b1.FnBracketBangNegates", spec := "fnBracketBangNegates", apart := false }
def FnBracketBangNegatesSaid : Prop := fnBracketBangNegatesRow.holds Try.pinned (OpenSpec.ofChange fnBracketBangNegatesSpec)

/-- ITS FALSE NEIGHBOUR: 'it returns false'. Refute it at one input. -/
def fnBracketBangNegatesWrong : ChangeSpec := { name := "fnBracketBangNegates", fn := fun _ => fun
  | [d1, d2, d3] => { results := [.lit (.bool false)], args := [d1, d2, d3] }
  | _ => none }
def FnBracketBangNegatesWrongFalsely : Prop := fnBracketBangNegatesRow.holds Try.pinned (OpenSpec.ofChange fnBracketBangNegatesWrong)

/-- 'zzlaws_pkg_ignore_b1.FnMatchGlobAgreesWithAutomaton': WHATEVER THE INPUT: true; the input reads as it did. -/
def fnMatchGlobAgreesWithAutomatonSpec : ChangeSpec := { name := "fnMatchGlobAgreesWithAutomaton", fn := fun _ => fun
  | [d1, d2] => { results := [.lit (.bool true)], args := [d1, d2] }
  | _ => none }
def fnMatchGlobAgreesWithAutomatonRow : OpenClaim := { program := "qxb6617323a", sum := "b0caa93c733970dfe11adf1fec1e55356218a6a16826f26538f008a731650c72", func := "example.com/stowage/stowage/zzlaws_pkg_ignore_b1.FnMatchGlobAgreesWithAutomaton", spec := "fnMatchGlobAgreesWithAutomaton", apart := false }
def FnMatchGlobAgreesWithAutomatonSaid : Prop := fnMatchGlobAgreesWithAutomatonRow.holds Try.pinned (OpenSpec.ofChange fnMatchGlobAgreesWithAutomatonSpec)

/-- ITS FALSE NEIGHBOUR: 'it returns false'. Refute it at one input. -/
def fnMatchGlobAgreesWithAutomatonWrong : ChangeSpec := { name := "fnMatchGlobAgreesWithAutomaton", fn := fun _ => fun
  | [d1, d2] => { results := [.lit (.bool false)], args := [d1, d2] }
  | _ => none }
def FnMatchGlobAgreesWithAutomatonWrongFalsely : Prop := fnMatchGlobAgreesWithAutomatonRow.holds Try.pinned (OpenSpec.ofChange fnMatchGlobAgreesWithAutomatonWrong)

/-- 'zzlaws_pkg_ignore_b1.FnMatchGlobEscapedTextIsLiteral': WHATEVER THE INPUT: true; the input reads as it did. -/
def fnMatchGlobEscapedTextIsLiteralSpec : ChangeSpec := { name := "fnMatchGlobEscapedTextIsLiteral", fn := fun _ => fun
  | [d1, d2] => { results := [.lit (.bool true)], args := [d1, d2] }
  | _ => none }
def fnMatchGlobEscapedTextIsLiteralRow : OpenClaim := { program := "qxb6617323a", sum := "b0caa93c733970dfe11adf1fec1e55356218a6a16826f26538f008a731650c72", func := "example.com/stowage/stowage/zzlaws_pkg_ignore_b1.FnMatchGlobEscapedTextIsLiteral", spec := "fnMatchGlobEscapedTextIsLiteral", apart := false }
def FnMatchGlobEscapedTextIsLiteralSaid : Prop := fnMatchGlobEscapedTextIsLiteralRow.holds Try.pinned (OpenSpec.ofChange fnMatchGlobEscapedTextIsLiteralSpec)

/-- ITS FALSE NEIGHBOUR: 'it returns false'. Refute it at one input. -/
def fnMatchGlobEscapedTextIsLiteralWrong : ChangeSpec := { name := "fnMatchGlobEscapedTextIsLiteral", fn := fun _ => fun
  | [d1, d2] => { results := [.lit (.bool false)], args := [d1, d2] }
  | _ => none }
def FnMatchGlobEscapedTextIsLiteralWrongFalsely : Prop := fnMatchGlobEscapedTextIsLiteralRow.holds Try.pinned (OpenSpec.ofChange fnMatchGlobEscapedTextIsLiteralWrong)

end Rows
end Go.Proofs.Qxb6617323a
