/-
  No cell of these rows narrows 'for every input' (looked for: loops, veiled, ifaces, maps, wideKeys, modest, calm, conditions, laid).
  DERIVED. THE GIVEN ROWS OF THIS SEAT. 1 by the template 'for every input the law returns true; each argument reads behind the call as it read before'; 0 by the template 'total and deterministic' (their statements: Qxb6617787aTotals.lean).
  GIVEN WITH THE SEED: the statements are not yours to turn. If you find one false, say at which input.
  Laid BY PROGRAM, IN A SANDBOX (cutbox-rows.mjs): the forced cells as the released guide's own fill.sh prints them over the translation f5fe6c10cb449565… (all of the seat's roots in one cut). By AI agents, Wed Nov 11 2026. No macro, syntax, notation, axiom, sorry.
-/
import Derived.Test.Qxb6617787aChecked
import GoSem.Claim
import GoSem.ClaimJoined
import GoSem.ClaimMapViews
import Derived.JoinedTies
import Derived.KernelRfl
namespace Go.Proofs.Qxb6617787a
/- THE CELL 'sum', in the pinned program and in every row, IS THE sha256 OF THE DUMP (.gsa) THAT Qxb6617787aProg.lean LOADS. Nothing in Lean hashes anything: it is a label: what it is worth is what the hold of that sum in a sandbox is worth. -/
noncomputable def Try.pinned : Pinned := { name := "qxb6617787a", sum := "f5fe6c10cb44956561e9da5434f8d04ad023bb779f8f40f0ce042957b4ee9310", checked := Try.checked }
namespace Rows
def none {H : Type} : Left H := { results := [], args := [] }

/-- 'zzlaws_internal_text_b1.FnPrefixIgnoresPartBoundaries': WHATEVER THE INPUT: true; the input reads as it did. -/
def fnPrefixIgnoresPartBoundariesSpec : ChangeSpec := { name := "fnPrefixIgnoresPartBoundaries", fn := fun _ => fun
  | [d1, d2, d3, d4, d5, d6] => { results := [.lit (.bool true)], args := [d1, d2, d3, d4, d5, d6] }
  | _ => none }
def fnPrefixIgnoresPartBoundariesRow : OpenClaim := { program := "qxb6617787a", sum := "f5fe6c10cb44956561e9da5434f8d04ad023bb779f8f40f0ce042957b4ee9310", func := "example.com/fresnel/fresnel/zzlaws_internal_text_b1.FnPrefixIgnoresPartBoundaries", spec := "fnPrefixIgnoresPartBoundaries", inPlace := ["internal/abi.NoEscape", "internal/bytealg.MakeNoZero"], apart := false }
def FnPrefixIgnoresPartBoundariesSaid : Prop := fnPrefixIgnoresPartBoundariesRow.holds Try.pinned (OpenSpec.ofChange fnPrefixIgnoresPartBoundariesSpec)

/-- ITS FALSE NEIGHBOUR: 'it returns false'. Refute it at one input. -/
def fnPrefixIgnoresPartBoundariesWrong : ChangeSpec := { name := "fnPrefixIgnoresPartBoundaries", fn := fun _ => fun
  | [d1, d2, d3, d4, d5, d6] => { results := [.lit (.bool false)], args := [d1, d2, d3, d4, d5, d6] }
  | _ => none }
def FnPrefixIgnoresPartBoundariesWrongFalsely : Prop := fnPrefixIgnoresPartBoundariesRow.holds Try.pinned (OpenSpec.ofChange fnPrefixIgnoresPartBoundariesWrong)

end Rows
end Go.Proofs.Qxb6617787a
