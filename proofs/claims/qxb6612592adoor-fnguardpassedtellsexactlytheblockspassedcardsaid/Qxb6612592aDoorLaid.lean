import Derived.Test.Qxb6612592aDoorNew
import Derived.ProofKit
import Derived.LaidMore
import Derived.OpenShut
import Derived.Stop.Joined
namespace Go.Proofs.Qxb6612592aDoor
open Go.ChangeShapes Go.WideShapes Go.ChangeAt Go.WideMaps Go.WideElems Go.RowKit

theorem own : ownKnob Tryd.prog.godebug = none := by kernel_rfl
/-- The name of the table of math/bits, off the given row. -/
abbrev tabName : String := Rows.fnGuardPassedAfterReadTellsTheBlocksReadRow.named.headD "x"
theorem gTab : Tryd.prog.globalNamed tabName = some 0 := by kernel_rfl
theorem tTab : (Tryd.prog.globals[0]?).map (·.type) = some 48 := by kernel_rfl
theorem cells5 : Tryd.prog.cellsOf 5 = 1 := by kernel_rfl
theorem cells48 : Tryd.prog.cellsOf 48 = 64 := by kernel_rfl

/-- What the two rows list. -/
def laid1 : List (String × DataW Unit) := [(tabName, Rows.laid_math_bits_deBruijn64tab)]

/-- The door's own heap meets the condition: three closed facts. -/
theorem door_met (os : Os) (args : Array Value) : laidMetH Tryd.prog laid1 ((World.doorLaid Tryd.prog 400 os).forCall (fun _ _ => 0) ⟨#[], args, []⟩).memory :=
  laidMetH_of_parts3 (fuel := 8) (laidMet_of_run' 8 (by kernel_rfl) (by kernel_rfl)) (by kernel_rfl) (by kernel_rfl)

/-- WHAT THE CONDITION GIVES THE WALKS: 64 cells of bytes. -/
theorem of_laid {W : World} (h : laidMetH Tryd.prog laid1 W) : Table W := by
  rw [MakeChecks.laidMetH_plain _ _ _ (by kernel_rfl)] at h
  obtain ⟨ps, ⟨g0, t0, cs0, f0, p0, q0, hg0, ht0, hv0, hd0, _, _⟩, _, _⟩ := h
  obtain rfl := Option.some.inj (gTab.symm.trans hg0)
  obtain rfl := Option.some.inj (tTab.symm.trans ht0)
  intro i hi
  obtain ⟨xs, m1, rfl, hx1, hlen, hn64, hel⟩ := DataW.trod_array Tryd.underlying48 hd0
  have h0 := hel i hi
  rw [cells5] at h0
  have hxi : xs[i]? = some xs[i] := by simp [hn64, hi]
  rw [hxi] at h0
  obtain ⟨k, e1, e2, hwf⟩ := DataW.trod_int Tryd.underlying5 h0
  have hb := bounds_u8 hwf
  have hc := World.var?_cell hg0 hv0 i
  refine ⟨k, by omega, by omega, ?_⟩
  rw [hc]
  have e3 := congrArg (fun l : List Value => l[0]?) e1
  simpa [List.getElem?_take, List.getElem?_drop] using e3
end Go.Proofs.Qxb6612592aDoor
