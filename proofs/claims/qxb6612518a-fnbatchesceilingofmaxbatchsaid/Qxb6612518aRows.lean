/-
  No cell of these rows narrows 'for every input' (looked for: loops, veiled, ifaces, maps, wideKeys, modest, calm, conditions, laid).
  DERIVED. THE GIVEN ROWS OF THIS SEAT. 2 by the template 'for every input the law returns true; each argument reads behind the call as it read before'; 0 by the template 'total and deterministic' (their statements: Qxb6612518aTotals.lean).
  GIVEN WITH THE SEED: the statements are not yours to turn. If you find one false, say at which input.
  Laid BY PROGRAM, IN A SANDBOX (cutbox-rows.mjs): the forced cells as the released guide's own fill.sh prints them over the translation b9693f55492a4a86… (all of the seat's roots in one cut). By AI agents, Wed Nov 11 2026. No macro, syntax, notation, axiom, sorry.
-/
import Derived.Test.Qxb6612518aChecked
import GoSem.Claim
import GoSem.ClaimJoined
import GoSem.ClaimMapViews
import Derived.JoinedTies
import Derived.KernelRfl
namespace Go.Proofs.Qxb6612518a
/- THE CELL 'sum', in the pinned program and in every row, IS THE sha256 OF THE DUMP (.gsa) THAT Qxb6612518aProg.lean LOADS. Nothing in Lean hashes anything: it is a label: what it is worth is what the hold of that sum in a sandbox is worth. -/
noncomputable def Try.pinned : Pinned := { name := "qxb6612518a", sum := "b9693f55492a4a86cbf47467eca341b51534860803e3053f4596d1b1d2478a57", checked := Try.checked }
namespace Rows
def none {H : Type} : Left H := { results := [], args := [] }

/-- 'zzlaws_root_b1.FnBatchesCeilingOfMaxBatch': WHATEVER THE INPUT: true; the input reads as it did. -/
def fnBatchesCeilingOfMaxBatchSpec : ChangeSpec := { name := "fnBatchesCeilingOfMaxBatch", fn := fun _ => fun
  | [d] => { results := [.lit (.bool true)], args := [d] }
  | _ => none }
def fnBatchesCeilingOfMaxBatchRow : OpenClaim := { program := "qxb6612518a", sum := "b9693f55492a4a86cbf47467eca341b51534860803e3053f4596d1b1d2478a57", func := "example.com/sole-tenant/sole-tenant/zzlaws_root_b1.FnBatchesCeilingOfMaxBatch", spec := "fnBatchesCeilingOfMaxBatch", apart := false }
def FnBatchesCeilingOfMaxBatchSaid : Prop := fnBatchesCeilingOfMaxBatchRow.holds Try.pinned (OpenSpec.ofChange fnBatchesCeilingOfMaxBatchSpec)

/-- ITS FALSE NEIGHBOUR: 'it returns false'. Refute it at one input. -/
def fnBatchesCeilingOfMaxBatchWrong : ChangeSpec := { name := "fnBatchesCeilingOfMaxBatch", fn := fun _ => fun
  | [d] => { results := [.lit (.bool false)], args := [d] }
  | _ => none }
def FnBatchesCeilingOfMaxBatchWrongFalsely : Prop := fnBatchesCeilingOfMaxBatchRow.holds Try.pinned (OpenSpec.ofChange fnBatchesCeilingOfMaxBatchWrong)

/-- 'zzlaws_root_b1.FnBatchesFullBatchShift': WHATEVER THE INPUT: true; the input reads as it did. -/
def fnBatchesFullBatchShiftSpec : ChangeSpec := { name := "fnBatchesFullBatchShift", fn := fun _ => fun
  | [d1, d2] => { results := [.lit (.bool true)], args := [d1, d2] }
  | _ => none }
def fnBatchesFullBatchShiftRow : OpenClaim := { program := "qxb6612518a", sum := "b9693f55492a4a86cbf47467eca341b51534860803e3053f4596d1b1d2478a57", func := "example.com/sole-tenant/sole-tenant/zzlaws_root_b1.FnBatchesFullBatchShift", spec := "fnBatchesFullBatchShift", apart := false }
def FnBatchesFullBatchShiftSaid : Prop := fnBatchesFullBatchShiftRow.holds Try.pinned (OpenSpec.ofChange fnBatchesFullBatchShiftSpec)

/-- ITS FALSE NEIGHBOUR: 'it returns false'. Refute it at one input. -/
def fnBatchesFullBatchShiftWrong : ChangeSpec := { name := "fnBatchesFullBatchShift", fn := fun _ => fun
  | [d1, d2] => { results := [.lit (.bool false)], args := [d1, d2] }
  | _ => none }
def FnBatchesFullBatchShiftWrongFalsely : Prop := fnBatchesFullBatchShiftRow.holds Try.pinned (OpenSpec.ofChange fnBatchesFullBatchShiftWrong)

end Rows
end Go.Proofs.Qxb6612518a
