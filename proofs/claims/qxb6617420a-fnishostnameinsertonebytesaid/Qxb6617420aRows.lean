/-
  No cell of these rows narrows 'for every input' (looked for: loops, veiled, ifaces, maps, wideKeys, modest, calm, conditions, laid).
  DERIVED. THE GIVEN ROWS OF THIS SEAT. 2 by the template 'for every input the law returns true; each argument reads behind the call as it read before'; 0 by the template 'total and deterministic' (their statements: Qxb6617420aTotals.lean).
  GIVEN WITH THE SEED: the statements are not yours to turn. If you find one false, say at which input.
  Laid BY PROGRAM, IN A SANDBOX (cutbox-rows.mjs): the forced cells as the released guide's own fill.sh prints them over the translation 8fa1c2f2837664ce… (all of the seat's roots in one cut). By AI agents, Wed Nov 11 2026. No macro, syntax, notation, axiom, sorry.
-/
import Derived.Test.Qxb6617420aChecked
import GoSem.Claim
import GoSem.ClaimJoined
import GoSem.ClaimMapViews
import Derived.JoinedTies
import Derived.KernelRfl
namespace Go.Proofs.Qxb6617420a
/- THE CELL 'sum', in the pinned program and in every row, IS THE sha256 OF THE DUMP (.gsa) THAT Qxb6617420aProg.lean LOADS. Nothing in Lean hashes anything: it is a label: what it is worth is what the hold of that sum in a sandbox is worth. -/
noncomputable def Try.pinned : Pinned := { name := "qxb6617420a", sum := "8fa1c2f2837664cec5985b8924394d9e609ea9395af33d1c6c93f605b246d5dc", checked := Try.checked }
namespace Rows
def none {H : Type} : Left H := { results := [], args := [] }

/-- 'zzlaws_internal_network_b1.FnIsHostNameSplitsAtAnyCut': WHATEVER THE INPUT: true; the input reads as it did. -/
def fnIsHostNameSplitsAtAnyCutSpec : ChangeSpec := { name := "fnIsHostNameSplitsAtAnyCut", fn := fun _ => fun
  | [d1, d2] => { results := [.lit (.bool true)], args := [d1, d2] }
  | _ => none }
def fnIsHostNameSplitsAtAnyCutRow : OpenClaim := { program := "qxb6617420a", sum := "8fa1c2f2837664cec5985b8924394d9e609ea9395af33d1c6c93f605b246d5dc", func := "example.com/quorumloom/quorumloom/zzlaws_internal_network_b1.FnIsHostNameSplitsAtAnyCut", spec := "fnIsHostNameSplitsAtAnyCut", apart := false }
def FnIsHostNameSplitsAtAnyCutSaid : Prop := fnIsHostNameSplitsAtAnyCutRow.holds Try.pinned (OpenSpec.ofChange fnIsHostNameSplitsAtAnyCutSpec)

/-- ITS FALSE NEIGHBOUR: 'it returns false'. Refute it at one input. -/
def fnIsHostNameSplitsAtAnyCutWrong : ChangeSpec := { name := "fnIsHostNameSplitsAtAnyCut", fn := fun _ => fun
  | [d1, d2] => { results := [.lit (.bool false)], args := [d1, d2] }
  | _ => none }
def FnIsHostNameSplitsAtAnyCutWrongFalsely : Prop := fnIsHostNameSplitsAtAnyCutRow.holds Try.pinned (OpenSpec.ofChange fnIsHostNameSplitsAtAnyCutWrong)

/-- 'zzlaws_internal_network_b1.FnIsHostNameInsertOneByte': WHATEVER THE INPUT: true; the input reads as it did. -/
def fnIsHostNameInsertOneByteSpec : ChangeSpec := { name := "fnIsHostNameInsertOneByte", fn := fun _ => fun
  | [d1, d2, d3] => { results := [.lit (.bool true)], args := [d1, d2, d3] }
  | _ => none }
def fnIsHostNameInsertOneByteRow : OpenClaim := { program := "qxb6617420a", sum := "8fa1c2f2837664cec5985b8924394d9e609ea9395af33d1c6c93f605b246d5dc", func := "example.com/quorumloom/quorumloom/zzlaws_internal_network_b1.FnIsHostNameInsertOneByte", spec := "fnIsHostNameInsertOneByte", apart := false }
def FnIsHostNameInsertOneByteSaid : Prop := fnIsHostNameInsertOneByteRow.holds Try.pinned (OpenSpec.ofChange fnIsHostNameInsertOneByteSpec)

/-- ITS FALSE NEIGHBOUR: 'it returns false'. Refute it at one input. -/
def fnIsHostNameInsertOneByteWrong : ChangeSpec := { name := "fnIsHostNameInsertOneByte", fn := fun _ => fun
  | [d1, d2, d3] => { results := [.lit (.bool false)], args := [d1, d2, d3] }
  | _ => none }
def FnIsHostNameInsertOneByteWrongFalsely : Prop := fnIsHostNameInsertOneByteRow.holds Try.pinned (OpenSpec.ofChange fnIsHostNameInsertOneByteWrong)

end Rows
end Go.Proofs.Qxb6617420a
