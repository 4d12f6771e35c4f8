/-
  No cell of these rows narrows 'for every input' (looked for: loops, veiled, ifaces, maps, wideKeys, modest, calm, conditions, laid).
  DERIVED. THE GIVEN ROWS OF THIS SEAT. 2 by the template 'for every input the law returns true; each argument reads behind the call as it read before'; 0 by the template 'total and deterministic' (their statements: Qxb6619408aTotals.lean).
  GIVEN WITH THE SEED: the statements are not yours to turn. If you find one false, say at which input.
  Laid BY PROGRAM, IN A SANDBOX (cutbox-rows.mjs): the forced cells as the released guide's own fill.sh prints them over the translation 29349be9d6fae32f… (all of the seat's roots in one cut). By AI agents, Wed Nov 11 2026. No macro, syntax, notation, axiom, sorry.
-/
import Derived.Test.Qxb6619408aChecked
import GoSem.Claim
import GoSem.ClaimJoined
import GoSem.ClaimMapViews
import Derived.JoinedTies
import Derived.KernelRfl
namespace Go.Proofs.Qxb6619408a
/- THE CELL 'sum', in the pinned program and in every row, IS THE sha256 OF THE DUMP (.gsa) THAT Qxb6619408aProg.lean LOADS. Nothing in Lean hashes anything: it is a label: what it is worth is what the hold of that sum in a sandbox is worth. -/
noncomputable def Try.pinned : Pinned := { name := "qxb6619408a", sum := "29349be9d6fae32fb32125c769b90cad9485a4032b24dca4d5ae5d93aa843c1b", checked := Try.checked }
namespace Rows
def none {H : Type} : Left H := { results := [], args := [] }

/-- 'zzlaws_asl_b1.FnJsonValueNamesEachKindOnce': WHATEVER THE INPUT: true; the input reads as it did. -/
def fnJsonValueNamesEachKindOnceSpec : ChangeSpec := { name := "fnJsonValueNamesEachKindOnce", fn := fun _ => fun
  | [d1, d2] => { results := [.lit (.bool true)], args := [d1, d2] }
  | _ => none }
def fnJsonValueNamesEachKindOnceRow : OpenClaim := { program := "qxb6619408a", sum := "29349be9d6fae32fb32125c769b90cad9485a4032b24dca4d5ae5d93aa843c1b", func := "example.com/sagacity/sagacity/zzlaws_asl_b1.FnJsonValueNamesEachKindOnce", spec := "fnJsonValueNamesEachKindOnce", apart := false }
def FnJsonValueNamesEachKindOnceSaid : Prop := fnJsonValueNamesEachKindOnceRow.holds Try.pinned (OpenSpec.ofChange fnJsonValueNamesEachKindOnceSpec)

/-- ITS FALSE NEIGHBOUR: 'it returns false'. Refute it at one input. -/
def fnJsonValueNamesEachKindOnceWrong : ChangeSpec := { name := "fnJsonValueNamesEachKindOnce", fn := fun _ => fun
  | [d1, d2] => { results := [.lit (.bool false)], args := [d1, d2] }
  | _ => none }
def FnJsonValueNamesEachKindOnceWrongFalsely : Prop := fnJsonValueNamesEachKindOnceRow.holds Try.pinned (OpenSpec.ofChange fnJsonValueNamesEachKindOnceWrong)

/-- 'zzlaws_asl_b1.FnNeedsParenthesesFollowsBindingStrength': WHATEVER THE INPUT: true; the input reads as it did. -/
def fnNeedsParenthesesFollowsBindingStrengthSpec : ChangeSpec := { name := "fnNeedsParenthesesFollowsBindingStrength", fn := fun _ => fun
  | [d1, d2, d3, d4] => { results := [.lit (.bool true)], args := [d1, d2, d3, d4] }
  | _ => none }
def fnNeedsParenthesesFollowsBindingStrengthRow : OpenClaim := { program := "qxb6619408a", sum := "29349be9d6fae32fb32125c769b90cad9485a4032b24dca4d5ae5d93aa843c1b", func := "example.com/sagacity/sagacity/zzlaws_asl_b1.FnNeedsParenthesesFollowsBindingStrength", spec := "fnNeedsParenthesesFollowsBindingStrength", apart := false }
def FnNeedsParenthesesFollowsBindingStrengthSaid : Prop := fnNeedsParenthesesFollowsBindingStrengthRow.holds Try.pinned (OpenSpec.ofChange fnNeedsParenthesesFollowsBindingStrengthSpec)

/-- ITS FALSE NEIGHBOUR: 'it returns false'. Refute it at one input. -/
def fnNeedsParenthesesFollowsBindingStrengthWrong : ChangeSpec := { name := "fnNeedsParenthesesFollowsBindingStrength", fn := fun _ => fun
  | [d1, d2, d3, d4] => { results := [.lit (.bool false)], args := [d1, d2, d3, d4] }
  | _ => none }
def FnNeedsParenthesesFollowsBindingStrengthWrongFalsely : Prop := fnNeedsParenthesesFollowsBindingStrengthRow.holds Try.pinned (OpenSpec.ofChange fnNeedsParenthesesFollowsBindingStrengthWrong)

end Rows
end Go.Proofs.Qxb6619408a
