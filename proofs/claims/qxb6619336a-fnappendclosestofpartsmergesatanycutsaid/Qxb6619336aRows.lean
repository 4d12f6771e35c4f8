/-
  No cell of these rows narrows 'for every input' (looked for: loops, veiled, ifaces, maps, wideKeys, modest, calm, conditions, laid).
  DERIVED. THE GIVEN ROWS OF THIS SEAT. 3 by the template 'for every input the law returns true; each argument reads behind the call as it read before'; 0 by the template 'total and deterministic' (their statements: Qxb6619336aTotals.lean).
  GIVEN WITH THE SEED: the statements are not yours to turn. If you find one false, say at which input.
  Laid BY PROGRAM, IN A SANDBOX (cutbox-rows.mjs): the forced cells as the released guide's own fill.sh prints them over the translation 17836238a334a50b… (all of the seat's roots in one cut). By AI agents, Wed Nov 11 2026. No macro, syntax, notation, axiom, sorry.
-/
import Derived.Test.Qxb6619336aChecked
import GoSem.Claim
import GoSem.ClaimJoined
import GoSem.ClaimMapViews
import Derived.JoinedTies
import Derived.KernelRfl
namespace Go.Proofs.Qxb6619336a
/- THE CELL 'sum', in the pinned program and in every row, IS THE sha256 OF THE DUMP (.gsa) THAT Qxb6619336aProg.lean LOADS. Nothing in Lean hashes anything: it is a label: what it is worth is what the hold of that sum in a sandbox is worth. -/
noncomputable def Try.pinned : Pinned := { name := "qxb6619336a", sum := "17836238a334a50b349612336680dacba13c003a6622cdb4dd5a5d283ed3f650", checked := Try.checked }
namespace Rows
def none {H : Type} : Left H := { results := [], args := [] }

/-- 'zzlaws_kademlia_b1.FnBucketAddFillsInOrderWithinItsRoom': WHATEVER THE INPUT: true; the input reads as it did. -/
def fnBucketAddFillsInOrderWithinItsRoomSpec : ChangeSpec := { name := "fnBucketAddFillsInOrderWithinItsRoom", fn := fun _ => fun
  | [d1, d2, d3, d4] => { results := [.lit (.bool true)], args := [d1, d2, d3, d4] }
  | _ => none }
def fnBucketAddFillsInOrderWithinItsRoomRow : OpenClaim := { program := "qxb6619336a", sum := "17836238a334a50b349612336680dacba13c003a6622cdb4dd5a5d283ed3f650", func := "example.com/ringloom/ringloom/zzlaws_kademlia_b1.FnBucketAddFillsInOrderWithinItsRoom", spec := "fnBucketAddFillsInOrderWithinItsRoom", apart := false }
def FnBucketAddFillsInOrderWithinItsRoomSaid : Prop := fnBucketAddFillsInOrderWithinItsRoomRow.holds Try.pinned (OpenSpec.ofChange fnBucketAddFillsInOrderWithinItsRoomSpec)

/-- ITS FALSE NEIGHBOUR: 'it returns false'. Refute it at one input. -/
def fnBucketAddFillsInOrderWithinItsRoomWrong : ChangeSpec := { name := "fnBucketAddFillsInOrderWithinItsRoom", fn := fun _ => fun
  | [d1, d2, d3, d4] => { results := [.lit (.bool false)], args := [d1, d2, d3, d4] }
  | _ => none }
def FnBucketAddFillsInOrderWithinItsRoomWrongFalsely : Prop := fnBucketAddFillsInOrderWithinItsRoomRow.holds Try.pinned (OpenSpec.ofChange fnBucketAddFillsInOrderWithinItsRoomWrong)

/-- 'zzlaws_kademlia_b1.FnAppendClosestPlacesEachNodeByItsRank': WHATEVER THE INPUT: true; the input reads as it did. -/
def fnAppendClosestPlacesEachNodeByItsRankSpec : ChangeSpec := { name := "fnAppendClosestPlacesEachNodeByItsRank", fn := fun _ => fun
  | [d1, d2, d3, d4, d5, d6, d7] => { results := [.lit (.bool true)], args := [d1, d2, d3, d4, d5, d6, d7] }
  | _ => none }
def fnAppendClosestPlacesEachNodeByItsRankRow : OpenClaim := { program := "qxb6619336a", sum := "17836238a334a50b349612336680dacba13c003a6622cdb4dd5a5d283ed3f650", func := "example.com/ringloom/ringloom/zzlaws_kademlia_b1.FnAppendClosestPlacesEachNodeByItsRank", spec := "fnAppendClosestPlacesEachNodeByItsRank", inPlace := ["slices.overlaps[example.com/ringloom/ringloom.Contact]"], unfollowed := true, recurses := true, apart := false }
def FnAppendClosestPlacesEachNodeByItsRankSaid : Prop := fnAppendClosestPlacesEachNodeByItsRankRow.holds Try.pinned (OpenSpec.ofChange fnAppendClosestPlacesEachNodeByItsRankSpec)

/-- ITS FALSE NEIGHBOUR: 'it returns false'. Refute it at one input. -/
def fnAppendClosestPlacesEachNodeByItsRankWrong : ChangeSpec := { name := "fnAppendClosestPlacesEachNodeByItsRank", fn := fun _ => fun
  | [d1, d2, d3, d4, d5, d6, d7] => { results := [.lit (.bool false)], args := [d1, d2, d3, d4, d5, d6, d7] }
  | _ => none }
def FnAppendClosestPlacesEachNodeByItsRankWrongFalsely : Prop := fnAppendClosestPlacesEachNodeByItsRankRow.holds Try.pinned (OpenSpec.ofChange fnAppendClosestPlacesEachNodeByItsRankWrong)

/-- 'zzlaws_kademlia_b1.FnAppendClosestOfPartsMergesAtAnyCut': WHATEVER THE INPUT: true; the input reads as it did. -/
def fnAppendClosestOfPartsMergesAtAnyCutSpec : ChangeSpec := { name := "fnAppendClosestOfPartsMergesAtAnyCut", fn := fun _ => fun
  | [d1, d2, d3, d4, d5, d6, d7] => { results := [.lit (.bool true)], args := [d1, d2, d3, d4, d5, d6, d7] }
  | _ => none }
def fnAppendClosestOfPartsMergesAtAnyCutRow : OpenClaim := { program := "qxb6619336a", sum := "17836238a334a50b349612336680dacba13c003a6622cdb4dd5a5d283ed3f650", func := "example.com/ringloom/ringloom/zzlaws_kademlia_b1.FnAppendClosestOfPartsMergesAtAnyCut", spec := "fnAppendClosestOfPartsMergesAtAnyCut", inPlace := ["slices.overlaps[example.com/ringloom/ringloom.Contact]"], unfollowed := true, recurses := true, apart := false }
def FnAppendClosestOfPartsMergesAtAnyCutSaid : Prop := fnAppendClosestOfPartsMergesAtAnyCutRow.holds Try.pinned (OpenSpec.ofChange fnAppendClosestOfPartsMergesAtAnyCutSpec)

/-- ITS FALSE NEIGHBOUR: 'it returns false'. Refute it at one input. -/
def fnAppendClosestOfPartsMergesAtAnyCutWrong : ChangeSpec := { name := "fnAppendClosestOfPartsMergesAtAnyCut", fn := fun _ => fun
  | [d1, d2, d3, d4, d5, d6, d7] => { results := [.lit (.bool false)], args := [d1, d2, d3, d4, d5, d6, d7] }
  | _ => none }
def FnAppendClosestOfPartsMergesAtAnyCutWrongFalsely : Prop := fnAppendClosestOfPartsMergesAtAnyCutRow.holds Try.pinned (OpenSpec.ofChange fnAppendClosestOfPartsMergesAtAnyCutWrong)

end Rows
end Go.Proofs.Qxb6619336a
