/-
  No cell of these rows narrows 'for every input' (looked for: loops, veiled, ifaces, maps, wideKeys, modest, calm, conditions, laid).
  DERIVED. THE GIVEN ROWS OF THIS SEAT. 1 by the template 'for every input the law returns true; each argument reads behind the call as it read before'; 0 by the template 'total and deterministic' (their statements: Qxb6619339aTotals.lean).
  GIVEN WITH THE SEED: the statements are not yours to turn. If you find one false, say at which input.
  Laid BY PROGRAM, IN A SANDBOX (cutbox-rows.mjs): the forced cells as the released guide's own fill.sh prints them over the translation e87a5f9a07a9ef2e… (all of the seat's roots in one cut). By AI agents, Wed Nov 11 2026. No macro, syntax, notation, axiom, sorry.
-/
import Derived.Test.Qxb6619339aChecked
import GoSem.Claim
import GoSem.ClaimJoined
import GoSem.ClaimMapViews
import Derived.JoinedTies
import Derived.KernelRfl
namespace Go.Proofs.Qxb6619339a
/- THE CELL 'sum', in the pinned program and in every row, IS THE sha256 OF THE DUMP (.gsa) THAT Qxb6619339aProg.lean LOADS. Nothing in Lean hashes anything: it is a label: what it is worth is what the hold of that sum in a sandbox is worth. -/
noncomputable def Try.pinned : Pinned := { name := "qxb6619339a", sum := "e87a5f9a07a9ef2e213f3c583fc3371149245d7d7f1879d7a6976ff92eedc196", checked := Try.checked }
namespace Rows
def none {H : Type} : Left H := { results := [], args := [] }

/-- 'zzlaws_root_b1.FnCodePointsPiecesJoinAtAnyMiddle': WHATEVER THE INPUT: true; the input reads as it did. -/
def fnCodePointsPiecesJoinAtAnyMiddleSpec : ChangeSpec := { name := "fnCodePointsPiecesJoinAtAnyMiddle", fn := fun _ => fun
  | [d1, d2, d3, d4] => { results := [.lit (.bool true)], args := [d1, d2, d3, d4] }
  | _ => none }
def fnCodePointsPiecesJoinAtAnyMiddleRow : OpenClaim := { program := "qxb6619339a", sum := "e87a5f9a07a9ef2e213f3c583fc3371149245d7d7f1879d7a6976ff92eedc196", func := "example.com/interlace/interlace/zzlaws_root_b1.FnCodePointsPiecesJoinAtAnyMiddle", spec := "fnCodePointsPiecesJoinAtAnyMiddle", apart := false }
def FnCodePointsPiecesJoinAtAnyMiddleSaid : Prop := fnCodePointsPiecesJoinAtAnyMiddleRow.holds Try.pinned (OpenSpec.ofChange fnCodePointsPiecesJoinAtAnyMiddleSpec)

/-- ITS FALSE NEIGHBOUR: 'it returns false'. Refute it at one input. -/
def fnCodePointsPiecesJoinAtAnyMiddleWrong : ChangeSpec := { name := "fnCodePointsPiecesJoinAtAnyMiddle", fn := fun _ => fun
  | [d1, d2, d3, d4] => { results := [.lit (.bool false)], args := [d1, d2, d3, d4] }
  | _ => none }
def FnCodePointsPiecesJoinAtAnyMiddleWrongFalsely : Prop := fnCodePointsPiecesJoinAtAnyMiddleRow.holds Try.pinned (OpenSpec.ofChange fnCodePointsPiecesJoinAtAnyMiddleWrong)

end Rows
end Go.Proofs.Qxb6619339a
