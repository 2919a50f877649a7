/-
  NARROWER THAN 'FOR EVERY INPUT', by the rows' own cells (each row's printed sentence says how): FnValidatorListPositionFindsListed: maps.
  DERIVED. THE GIVEN ROWS OF THIS SEAT. 2 by the template 'for every input the law returns true; each argument reads behind the call as it read before'; 0 by the template 'total and deterministic' (their statements: Qxb6617830aTotals.lean).
  GIVEN WITH THE SEED: the statements are not yours to turn. If you find one false, say at which input.
  Laid BY PROGRAM, IN A SANDBOX (cutbox-rows.mjs): the forced cells as the released guide's own fill.sh prints them over the translation 2bae512c876124d4… (all of the seat's roots in one cut). By AI agents, Wed Nov 11 2026. No macro, syntax, notation, axiom, sorry.
-/
import Derived.Test.Qxb6617830aChecked
import GoSem.Claim
import GoSem.ClaimJoined
import GoSem.ClaimMapViews
import Derived.JoinedTies
import Derived.KernelRfl
namespace Go.Proofs.Qxb6617830a
/- THE CELL 'sum', in the pinned program and in every row, IS THE sha256 OF THE DUMP (.gsa) THAT Qxb6617830aProg.lean LOADS. Nothing in Lean hashes anything: it is a label: what it is worth is what the hold of that sum in a sandbox is worth. -/
noncomputable def Try.pinned : Pinned := { name := "qxb6617830a", sum := "2bae512c876124d4700356e34cdc01c07c86ef8bfedc6c01ee4829aea4779c03", checked := Try.checked }
namespace Rows
def none {H : Type} : Left H := { results := [], args := [] }

/-- 'zzlaws_root_b1.FnHeartbeatRoundOrderedSlots': WHATEVER THE INPUT: true; the input reads as it did. -/
def fnHeartbeatRoundOrderedSlotsSpec : ChangeSpec := { name := "fnHeartbeatRoundOrderedSlots", fn := fun _ => fun
  | [d1, d2] => { results := [.lit (.bool true)], args := [d1, d2] }
  | _ => none }
def fnHeartbeatRoundOrderedSlotsRow : OpenClaim := { program := "qxb6617830a", sum := "2bae512c876124d4700356e34cdc01c07c86ef8bfedc6c01ee4829aea4779c03", func := "example.com/roundstone/roundstone/zzlaws_root_b1.FnHeartbeatRoundOrderedSlots", spec := "fnHeartbeatRoundOrderedSlots", apart := false }
def FnHeartbeatRoundOrderedSlotsSaid : Prop := fnHeartbeatRoundOrderedSlotsRow.holds Try.pinned (OpenSpec.ofChange fnHeartbeatRoundOrderedSlotsSpec)

/-- ITS FALSE NEIGHBOUR: 'it returns false'. Refute it at one input. -/
def fnHeartbeatRoundOrderedSlotsWrong : ChangeSpec := { name := "fnHeartbeatRoundOrderedSlots", fn := fun _ => fun
  | [d1, d2] => { results := [.lit (.bool false)], args := [d1, d2] }
  | _ => none }
def FnHeartbeatRoundOrderedSlotsWrongFalsely : Prop := fnHeartbeatRoundOrderedSlotsRow.holds Try.pinned (OpenSpec.ofChange fnHeartbeatRoundOrderedSlotsWrong)

/-- 'zzlaws_root_b1.FnValidatorListPositionFindsListed': WHATEVER THE INPUT: true; the input reads as it did. -/
def fnValidatorListPositionFindsListedSpec : ChangeSpec := { name := "fnValidatorListPositionFindsListed", fn := fun _ => fun
  | [d1, d2, d3, d4] => { results := [.lit (.bool true)], args := [d1, d2, d3, d4] }
  | _ => none }
def fnValidatorListPositionFindsListedRow : OpenClaim := { program := "qxb6617830a", sum := "2bae512c876124d4700356e34cdc01c07c86ef8bfedc6c01ee4829aea4779c03", func := "example.com/roundstone/roundstone/zzlaws_root_b1.FnValidatorListPositionFindsListed", spec := "fnValidatorListPositionFindsListed", maps := true, apart := false }
def FnValidatorListPositionFindsListedSaid : Prop := fnValidatorListPositionFindsListedRow.holds Try.pinned (OpenSpec.ofChange fnValidatorListPositionFindsListedSpec)

/-- ITS FALSE NEIGHBOUR: 'it returns false'. Refute it at one input. -/
def fnValidatorListPositionFindsListedWrong : ChangeSpec := { name := "fnValidatorListPositionFindsListed", fn := fun _ => fun
  | [d1, d2, d3, d4] => { results := [.lit (.bool false)], args := [d1, d2, d3, d4] }
  | _ => none }
def FnValidatorListPositionFindsListedWrongFalsely : Prop := fnValidatorListPositionFindsListedRow.holds Try.pinned (OpenSpec.ofChange fnValidatorListPositionFindsListedWrong)

end Rows
end Go.Proofs.Qxb6617830a
