/-
  No cell of these rows narrows 'for every input' (looked for: loops, veiled, ifaces, maps, wideKeys, modest, calm, conditions, laid).
  DERIVED. THE GIVEN ROWS OF THIS SEAT. 3 by the template 'for every input the law returns true; each argument reads behind the call as it read before'; 0 by the template 'total and deterministic' (their statements: Qxb6605425aTotals.lean).
  GIVEN WITH THE SEED: the statements are not yours to turn. If you find one false, say at which input.
  Laid BY PROGRAM, IN A SANDBOX (cutbox-rows.mjs): the forced cells as the released guide's own fill.sh prints them over the translation 7e4fd126f3c01920… (all of the seat's roots in one cut). By AI agents, Wed Nov 11 2026. No macro, syntax, notation, axiom, sorry.
-/
import Derived.Test.Qxb6605425aChecked
import GoSem.Claim
import GoSem.ClaimJoined
import GoSem.ClaimMapViews
import Derived.JoinedTies
import Derived.KernelRfl
namespace Go.Proofs.Qxb6605425a
/- THE CELL 'sum', in the pinned program and in every row, IS THE sha256 OF THE DUMP (.gsa) THAT Qxb6605425aProg.lean LOADS. Nothing in Lean hashes anything: it is a label: what it is worth is what the hold of that sum in a sandbox is worth. -/
noncomputable def Try.pinned : Pinned := { name := "qxb6605425a", sum := "7e4fd126f3c019203ea9176e7c0088b4b05058d86f260de0e7c2d06ace769095", checked := Try.checked }
namespace Rows
def none {H : Type} : Left H := { results := [], args := [] }

/-- 'zzlaws_client_b1.FnUnquoteMatchesEscapeModel': WHATEVER THE INPUT: true; the input reads as it did. -/
def fnUnquoteMatchesEscapeModelSpec : ChangeSpec := { name := "fnUnquoteMatchesEscapeModel", fn := fun _ => fun
  | [d] => { results := [.lit (.bool true)], args := [d] }
  | _ => none }
def fnUnquoteMatchesEscapeModelRow : OpenClaim := { program := "qxb6605425a", sum := "7e4fd126f3c019203ea9176e7c0088b4b05058d86f260de0e7c2d06ace769095", func := "example.com/utsuwa/utsuwa/zzlaws_client_b1.FnUnquoteMatchesEscapeModel", spec := "fnUnquoteMatchesEscapeModel", apart := false }
def FnUnquoteMatchesEscapeModelSaid : Prop := fnUnquoteMatchesEscapeModelRow.holds Try.pinned (OpenSpec.ofChange fnUnquoteMatchesEscapeModelSpec)

/-- ITS FALSE NEIGHBOUR: 'it returns false'. Refute it at one input. -/
def fnUnquoteMatchesEscapeModelWrong : ChangeSpec := { name := "fnUnquoteMatchesEscapeModel", fn := fun _ => fun
  | [d] => { results := [.lit (.bool false)], args := [d] }
  | _ => none }
def FnUnquoteMatchesEscapeModelWrongFalsely : Prop := fnUnquoteMatchesEscapeModelRow.holds Try.pinned (OpenSpec.ofChange fnUnquoteMatchesEscapeModelWrong)

/-- 'zzlaws_client_b1.FnUnquoteInvertsQuoting': WHATEVER THE INPUT: true; the input reads as it did. -/
def fnUnquoteInvertsQuotingSpec : ChangeSpec := { name := "fnUnquoteInvertsQuoting", fn := fun _ => fun
  | [d1, d2] => { results := [.lit (.bool true)], args := [d1, d2] }
  | _ => none }
def fnUnquoteInvertsQuotingRow : OpenClaim := { program := "qxb6605425a", sum := "7e4fd126f3c019203ea9176e7c0088b4b05058d86f260de0e7c2d06ace769095", func := "example.com/utsuwa/utsuwa/zzlaws_client_b1.FnUnquoteInvertsQuoting", spec := "fnUnquoteInvertsQuoting", apart := false }
def FnUnquoteInvertsQuotingSaid : Prop := fnUnquoteInvertsQuotingRow.holds Try.pinned (OpenSpec.ofChange fnUnquoteInvertsQuotingSpec)

/-- ITS FALSE NEIGHBOUR: 'it returns false'. Refute it at one input. -/
def fnUnquoteInvertsQuotingWrong : ChangeSpec := { name := "fnUnquoteInvertsQuoting", fn := fun _ => fun
  | [d1, d2] => { results := [.lit (.bool false)], args := [d1, d2] }
  | _ => none }
def FnUnquoteInvertsQuotingWrongFalsely : Prop := fnUnquoteInvertsQuotingRow.holds Try.pinned (OpenSpec.ofChange fnUnquoteInvertsQuotingWrong)

/-- 'zzlaws_client_b1.FnEqualFoldIsEqualityOfUpperCase': WHATEVER THE INPUT: true; the input reads as it did. -/
def fnEqualFoldIsEqualityOfUpperCaseSpec : ChangeSpec := { name := "fnEqualFoldIsEqualityOfUpperCase", fn := fun _ => fun
  | [d1, d2] => { results := [.lit (.bool true)], args := [d1, d2] }
  | _ => none }
def fnEqualFoldIsEqualityOfUpperCaseRow : OpenClaim := { program := "qxb6605425a", sum := "7e4fd126f3c019203ea9176e7c0088b4b05058d86f260de0e7c2d06ace769095", func := "example.com/utsuwa/utsuwa/zzlaws_client_b1.FnEqualFoldIsEqualityOfUpperCase", spec := "fnEqualFoldIsEqualityOfUpperCase", apart := false }
def FnEqualFoldIsEqualityOfUpperCaseSaid : Prop := fnEqualFoldIsEqualityOfUpperCaseRow.holds Try.pinned (OpenSpec.ofChange fnEqualFoldIsEqualityOfUpperCaseSpec)

/-- ITS FALSE NEIGHBOUR: 'it returns false'. Refute it at one input. -/
def fnEqualFoldIsEqualityOfUpperCaseWrong : ChangeSpec := { name := "fnEqualFoldIsEqualityOfUpperCase", fn := fun _ => fun
  | [d1, d2] => { results := [.lit (.bool false)], args := [d1, d2] }
  | _ => none }
def FnEqualFoldIsEqualityOfUpperCaseWrongFalsely : Prop := fnEqualFoldIsEqualityOfUpperCaseRow.holds Try.pinned (OpenSpec.ofChange fnEqualFoldIsEqualityOfUpperCaseWrong)

end Rows
end Go.Proofs.Qxb6605425a
