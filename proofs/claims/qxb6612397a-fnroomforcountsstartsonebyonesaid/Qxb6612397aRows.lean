/-
  No cell of these rows narrows 'for every input' (looked for: loops, veiled, ifaces, maps, wideKeys, modest, calm, conditions, laid).
  DERIVED. THE GIVEN ROWS OF THIS SEAT. 1 by the template 'for every input the law returns true; each argument reads behind the call as it read before'; 0 by the template 'total and deterministic' (their statements: Qxb6612397aTotals.lean).
  GIVEN WITH THE SEED: the statements are not yours to turn. If you find one false, say at which input.
  Laid BY PROGRAM, IN A SANDBOX (cutbox-rows.mjs): the forced cells as the released guide's own fill.sh prints them over the translation 04f4a34408f1b04a… (all of the seat's roots in one cut). By AI agents, Wed Nov 11 2026. No macro, syntax, notation, axiom, sorry.
-/
import Derived.Test.Qxb6612397aChecked
import GoSem.Claim
import GoSem.ClaimJoined
import GoSem.ClaimMapViews
import Derived.JoinedTies
import Derived.KernelRfl
namespace Go.Proofs.Qxb6612397a
/- THE CELL 'sum', in the pinned program and in every row, IS THE sha256 OF THE DUMP (.gsa) THAT Qxb6612397aProg.lean LOADS. Nothing in Lean hashes anything: it is a label: what it is worth is what the hold of that sum in a sandbox is worth. -/
noncomputable def Try.pinned : Pinned := { name := "qxb6612397a", sum := "04f4a34408f1b04aa066c77c88b32b263ce4316b02cdffd4cfcf0612ceaf5ed4", checked := Try.checked }
namespace Rows
def none {H : Type} : Left H := { results := [], args := [] }

/-- 'zzlaws_delivery_b1.FnRoomForCountsStartsOneByOne': WHATEVER THE INPUT: true; the input reads as it did. -/
def fnRoomForCountsStartsOneByOneSpec : ChangeSpec := { name := "fnRoomForCountsStartsOneByOne", fn := fun _ => fun
  | [d1, d2, d3, d4] => { results := [.lit (.bool true)], args := [d1, d2, d3, d4] }
  | _ => none }
def fnRoomForCountsStartsOneByOneRow : OpenClaim := { program := "qxb6612397a", sum := "04f4a34408f1b04aa066c77c88b32b263ce4316b02cdffd4cfcf0612ceaf5ed4", func := "example.com/callbackd/callbackd/zzlaws_delivery_b1.FnRoomForCountsStartsOneByOne", spec := "fnRoomForCountsStartsOneByOne", apart := false }
def FnRoomForCountsStartsOneByOneSaid : Prop := fnRoomForCountsStartsOneByOneRow.holds Try.pinned (OpenSpec.ofChange fnRoomForCountsStartsOneByOneSpec)

/-- ITS FALSE NEIGHBOUR: 'it returns false'. Refute it at one input. -/
def fnRoomForCountsStartsOneByOneWrong : ChangeSpec := { name := "fnRoomForCountsStartsOneByOne", fn := fun _ => fun
  | [d1, d2, d3, d4] => { results := [.lit (.bool false)], args := [d1, d2, d3, d4] }
  | _ => none }
def FnRoomForCountsStartsOneByOneWrongFalsely : Prop := fnRoomForCountsStartsOneByOneRow.holds Try.pinned (OpenSpec.ofChange fnRoomForCountsStartsOneByOneWrong)

end Rows
end Go.Proofs.Qxb6612397a
