/-
  No cell of these rows narrows 'for every input' (looked for: loops, veiled, ifaces, maps, wideKeys, modest, calm, conditions, laid).
  DERIVED. THE GIVEN ROWS OF THIS SEAT. 1 by the template 'for every input the law returns true; each argument reads behind the call as it read before'; 0 by the template 'total and deterministic' (their statements: Qxb6616517aTotals.lean).
  GIVEN WITH THE SEED: the statements are not yours to turn. If you find one false, say at which input.
  Laid BY PROGRAM, IN A SANDBOX (cutbox-rows.mjs): the forced cells as the released guide's own fill.sh prints them over the translation cc58162b2ee8d568… (all of the seat's roots in one cut). By AI agents, Wed Nov 11 2026. No macro, syntax, notation, axiom, sorry.
-/
import Derived.Test.Qxb6616517aChecked
import GoSem.Claim
import GoSem.ClaimJoined
import GoSem.ClaimMapViews
import Derived.JoinedTies
import Derived.KernelRfl
namespace Go.Proofs.Qxb6616517a
/- THE CELL 'sum', in the pinned program and in every row, IS THE sha256 OF THE DUMP (.gsa) THAT Qxb6616517aProg.lean LOADS. Nothing in Lean hashes anything: it is a label: what it is worth is what the hold of that sum in a sandbox is worth. -/
noncomputable def Try.pinned : Pinned := { name := "qxb6616517a", sum := "cc58162b2ee8d5687858fb095e2ccd69055bb0fa05558247062405ba05749825", checked := Try.checked }
namespace Rows
def none {H : Type} : Left H := { results := [], args := [] }

/-- 'zzlaws_tuple_b1.FnAppendBytesKeepsByteOrder': WHATEVER THE INPUT: true; the input reads as it did. -/
def fnAppendBytesKeepsByteOrderSpec : ChangeSpec := { name := "fnAppendBytesKeepsByteOrder", fn := fun _ => fun
  | [d1, d2] => { results := [.lit (.bool true)], args := [d1, d2] }
  | _ => none }
def fnAppendBytesKeepsByteOrderRow : OpenClaim := { program := "qxb6616517a", sum := "cc58162b2ee8d5687858fb095e2ccd69055bb0fa05558247062405ba05749825", func := "example.com/maps-to-keys/maps-to-keys/zzlaws_tuple_b1.FnAppendBytesKeepsByteOrder", spec := "fnAppendBytesKeepsByteOrder", apart := false }
def FnAppendBytesKeepsByteOrderSaid : Prop := fnAppendBytesKeepsByteOrderRow.holds Try.pinned (OpenSpec.ofChange fnAppendBytesKeepsByteOrderSpec)

/-- ITS FALSE NEIGHBOUR: 'it returns false'. Refute it at one input. -/
def fnAppendBytesKeepsByteOrderWrong : ChangeSpec := { name := "fnAppendBytesKeepsByteOrder", fn := fun _ => fun
  | [d1, d2] => { results := [.lit (.bool false)], args := [d1, d2] }
  | _ => none }
def FnAppendBytesKeepsByteOrderWrongFalsely : Prop := fnAppendBytesKeepsByteOrderRow.holds Try.pinned (OpenSpec.ofChange fnAppendBytesKeepsByteOrderWrong)

end Rows
end Go.Proofs.Qxb6616517a
