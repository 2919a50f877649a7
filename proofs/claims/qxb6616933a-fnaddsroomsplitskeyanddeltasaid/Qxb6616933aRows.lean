/-
  No cell of these rows narrows 'for every input' (looked for: loops, veiled, ifaces, maps, wideKeys, modest, calm, conditions, laid).
  DERIVED. THE GIVEN ROWS OF THIS SEAT. 2 by the template 'for every input the law returns true; each argument reads behind the call as it read before'; 0 by the template 'total and deterministic' (their statements: Qxb6616933aTotals.lean).
  GIVEN WITH THE SEED: the statements are not yours to turn. If you find one false, say at which input.
  Laid BY PROGRAM, IN A SANDBOX (cutbox-rows.mjs): the forced cells as the released guide's own fill.sh prints them over the translation b86f70cc273ea330… (all of the seat's roots in one cut). By AI agents, Wed Nov 11 2026. No macro, syntax, notation, axiom, sorry.
-/
import Derived.Test.Qxb6616933aChecked
import GoSem.Claim
import GoSem.ClaimJoined
import GoSem.ClaimMapViews
import Derived.JoinedTies
import Derived.KernelRfl
namespace Go.Proofs.Qxb6616933a
/- THE CELL 'sum', in the pinned program and in every row, IS THE sha256 OF THE DUMP (.gsa) THAT Qxb6616933aProg.lean LOADS. Nothing in Lean hashes anything: it is a label: what it is worth is what the hold of that sum in a sandbox is worth. -/
noncomputable def Try.pinned : Pinned := { name := "qxb6616933a", sum := "b86f70cc273ea330ee33af8afcff3fceae87c8bc9d7822ac5bea94c6fe7c95ac", checked := Try.checked }
namespace Rows
def none {H : Type} : Left H := { results := [], args := [] }

/-- 'zzlaws_store_b1.FnAddsRoomSplitsKeyAndDelta': WHATEVER THE INPUT: true; the input reads as it did. -/
def fnAddsRoomSplitsKeyAndDeltaSpec : ChangeSpec := { name := "fnAddsRoomSplitsKeyAndDelta", fn := fun _ => fun
  | [d1, d2, d3] => { results := [.lit (.bool true)], args := [d1, d2, d3] }
  | _ => none }
def fnAddsRoomSplitsKeyAndDeltaRow : OpenClaim := { program := "qxb6616933a", sum := "b86f70cc273ea330ee33af8afcff3fceae87c8bc9d7822ac5bea94c6fe7c95ac", func := "example.com/commitward/commitward/zzlaws_store_b1.FnAddsRoomSplitsKeyAndDelta", spec := "fnAddsRoomSplitsKeyAndDelta", apart := false }
def FnAddsRoomSplitsKeyAndDeltaSaid : Prop := fnAddsRoomSplitsKeyAndDeltaRow.holds Try.pinned (OpenSpec.ofChange fnAddsRoomSplitsKeyAndDeltaSpec)

/-- ITS FALSE NEIGHBOUR: 'it returns false'. Refute it at one input. -/
def fnAddsRoomSplitsKeyAndDeltaWrong : ChangeSpec := { name := "fnAddsRoomSplitsKeyAndDelta", fn := fun _ => fun
  | [d1, d2, d3] => { results := [.lit (.bool false)], args := [d1, d2, d3] }
  | _ => none }
def FnAddsRoomSplitsKeyAndDeltaWrongFalsely : Prop := fnAddsRoomSplitsKeyAndDeltaRow.holds Try.pinned (OpenSpec.ofChange fnAddsRoomSplitsKeyAndDeltaWrong)

/-- 'zzlaws_store_b1.FnAddsRoomGrowsByOneKeyByteAndIgnoresSign': WHATEVER THE INPUT: true; the input reads as it did. -/
def fnAddsRoomGrowsByOneKeyByteAndIgnoresSignSpec : ChangeSpec := { name := "fnAddsRoomGrowsByOneKeyByteAndIgnoresSign", fn := fun _ => fun
  | [d1, d2, d3] => { results := [.lit (.bool true)], args := [d1, d2, d3] }
  | _ => none }
def fnAddsRoomGrowsByOneKeyByteAndIgnoresSignRow : OpenClaim := { program := "qxb6616933a", sum := "b86f70cc273ea330ee33af8afcff3fceae87c8bc9d7822ac5bea94c6fe7c95ac", func := "example.com/commitward/commitward/zzlaws_store_b1.FnAddsRoomGrowsByOneKeyByteAndIgnoresSign", spec := "fnAddsRoomGrowsByOneKeyByteAndIgnoresSign", apart := false }
def FnAddsRoomGrowsByOneKeyByteAndIgnoresSignSaid : Prop := fnAddsRoomGrowsByOneKeyByteAndIgnoresSignRow.holds Try.pinned (OpenSpec.ofChange fnAddsRoomGrowsByOneKeyByteAndIgnoresSignSpec)

/-- ITS FALSE NEIGHBOUR: 'it returns false'. Refute it at one input. -/
def fnAddsRoomGrowsByOneKeyByteAndIgnoresSignWrong : ChangeSpec := { name := "fnAddsRoomGrowsByOneKeyByteAndIgnoresSign", fn := fun _ => fun
  | [d1, d2, d3] => { results := [.lit (.bool false)], args := [d1, d2, d3] }
  | _ => none }
def FnAddsRoomGrowsByOneKeyByteAndIgnoresSignWrongFalsely : Prop := fnAddsRoomGrowsByOneKeyByteAndIgnoresSignRow.holds Try.pinned (OpenSpec.ofChange fnAddsRoomGrowsByOneKeyByteAndIgnoresSignWrong)

end Rows
end Go.Proofs.Qxb6616933a
