/-
  No cell of these rows narrows 'for every input' (looked for: loops, veiled, ifaces, maps, wideKeys, modest, calm, conditions, laid).
  DERIVED. THE GIVEN ROWS OF THIS SEAT. 3 by the template 'for every input the law returns true; each argument reads behind the call as it read before'; 0 by the template 'total and deterministic' (their statements: Qxb6621701aTotals.lean).
  GIVEN WITH THE SEED: the statements are not yours to turn. If you find one false, say at which input.
  Laid BY PROGRAM, IN A SANDBOX (cutbox-rows.mjs): the forced cells as the released guide's own fill.sh prints them over the translation 5caf3852491d5c2b… (all of the seat's roots in one cut). By AI agents, Wed Nov 11 2026. No macro, syntax, notation, axiom, sorry.
-/
import Derived.Test.Qxb6621701aChecked
import GoSem.Claim
import GoSem.ClaimJoined
import GoSem.ClaimMapViews
import Derived.JoinedTies
import Derived.KernelRfl
namespace Go.Proofs.Qxb6621701a
/- THE CELL 'sum', in the pinned program and in every row, IS THE sha256 OF THE DUMP (.gsa) THAT Qxb6621701aProg.lean LOADS. Nothing in Lean hashes anything: it is a label: what it is worth is what the hold of that sum in a sandbox is worth. -/
noncomputable def Try.pinned : Pinned := { name := "qxb6621701a", sum := "5caf3852491d5c2b37a98e1864f26e506e67b801d061e2e17392870fc5c35d77", checked := Try.checked }
namespace Rows
def none {H : Type} : Left H := { results := [], args := [] }

/-- 'zzlaws_pkg_resolve_b1.FnIsIntegerMatchesModel': WHATEVER THE INPUT: true; the input reads as it did. -/
def fnIsIntegerMatchesModelSpec : ChangeSpec := { name := "fnIsIntegerMatchesModel", fn := fun _ => fun
  | [d] => { results := [.lit (.bool true)], args := [d] }
  | _ => none }
def fnIsIntegerMatchesModelRow : OpenClaim := { program := "qxb6621701a", sum := "5caf3852491d5c2b37a98e1864f26e506e67b801d061e2e17392870fc5c35d77", func := "example.com/accrete/accrete/zzlaws_pkg_resolve_b1.FnIsIntegerMatchesModel", spec := "fnIsIntegerMatchesModel", apart := false }
def FnIsIntegerMatchesModelSaid : Prop := fnIsIntegerMatchesModelRow.holds Try.pinned (OpenSpec.ofChange fnIsIntegerMatchesModelSpec)

/-- ITS FALSE NEIGHBOUR: 'it returns false'. Refute it at one input. -/
def fnIsIntegerMatchesModelWrong : ChangeSpec := { name := "fnIsIntegerMatchesModel", fn := fun _ => fun
  | [d] => { results := [.lit (.bool false)], args := [d] }
  | _ => none }
def FnIsIntegerMatchesModelWrongFalsely : Prop := fnIsIntegerMatchesModelRow.holds Try.pinned (OpenSpec.ofChange fnIsIntegerMatchesModelWrong)

/-- 'zzlaws_pkg_resolve_b1.FnIsIntegerIgnoresUnderscoresAndSign': WHATEVER THE INPUT: true; the input reads as it did. -/
def fnIsIntegerIgnoresUnderscoresAndSignSpec : ChangeSpec := { name := "fnIsIntegerIgnoresUnderscoresAndSign", fn := fun _ => fun
  | [d1, d2] => { results := [.lit (.bool true)], args := [d1, d2] }
  | _ => none }
def fnIsIntegerIgnoresUnderscoresAndSignRow : OpenClaim := { program := "qxb6621701a", sum := "5caf3852491d5c2b37a98e1864f26e506e67b801d061e2e17392870fc5c35d77", func := "example.com/accrete/accrete/zzlaws_pkg_resolve_b1.FnIsIntegerIgnoresUnderscoresAndSign", spec := "fnIsIntegerIgnoresUnderscoresAndSign", apart := false }
def FnIsIntegerIgnoresUnderscoresAndSignSaid : Prop := fnIsIntegerIgnoresUnderscoresAndSignRow.holds Try.pinned (OpenSpec.ofChange fnIsIntegerIgnoresUnderscoresAndSignSpec)

/-- ITS FALSE NEIGHBOUR: 'it returns false'. Refute it at one input. -/
def fnIsIntegerIgnoresUnderscoresAndSignWrong : ChangeSpec := { name := "fnIsIntegerIgnoresUnderscoresAndSign", fn := fun _ => fun
  | [d1, d2] => { results := [.lit (.bool false)], args := [d1, d2] }
  | _ => none }
def FnIsIntegerIgnoresUnderscoresAndSignWrongFalsely : Prop := fnIsIntegerIgnoresUnderscoresAndSignRow.holds Try.pinned (OpenSpec.ofChange fnIsIntegerIgnoresUnderscoresAndSignWrong)

/-- 'zzlaws_pkg_resolve_b1.FnPastUnderscoresFindsRunEndAndSplits': WHATEVER THE INPUT: true; the input reads as it did. -/
def fnPastUnderscoresFindsRunEndAndSplitsSpec : ChangeSpec := { name := "fnPastUnderscoresFindsRunEndAndSplits", fn := fun _ => fun
  | [d1, d2, d3, d4] => { results := [.lit (.bool true)], args := [d1, d2, d3, d4] }
  | _ => none }
def fnPastUnderscoresFindsRunEndAndSplitsRow : OpenClaim := { program := "qxb6621701a", sum := "5caf3852491d5c2b37a98e1864f26e506e67b801d061e2e17392870fc5c35d77", func := "example.com/accrete/accrete/zzlaws_pkg_resolve_b1.FnPastUnderscoresFindsRunEndAndSplits", spec := "fnPastUnderscoresFindsRunEndAndSplits", apart := false }
def FnPastUnderscoresFindsRunEndAndSplitsSaid : Prop := fnPastUnderscoresFindsRunEndAndSplitsRow.holds Try.pinned (OpenSpec.ofChange fnPastUnderscoresFindsRunEndAndSplitsSpec)

/-- ITS FALSE NEIGHBOUR: 'it returns false'. Refute it at one input. -/
def fnPastUnderscoresFindsRunEndAndSplitsWrong : ChangeSpec := { name := "fnPastUnderscoresFindsRunEndAndSplits", fn := fun _ => fun
  | [d1, d2, d3, d4] => { results := [.lit (.bool false)], args := [d1, d2, d3, d4] }
  | _ => none }
def FnPastUnderscoresFindsRunEndAndSplitsWrongFalsely : Prop := fnPastUnderscoresFindsRunEndAndSplitsRow.holds Try.pinned (OpenSpec.ofChange fnPastUnderscoresFindsRunEndAndSplitsWrong)

end Rows
end Go.Proofs.Qxb6621701a
