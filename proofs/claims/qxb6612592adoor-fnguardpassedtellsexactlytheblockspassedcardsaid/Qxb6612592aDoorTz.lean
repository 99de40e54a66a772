import Derived.Test.Qxb6612592aDoorGd
namespace Go.Proofs.Qxb6612592aDoor
open Go.RowKit

/-- The table of math/bits, as a walk reads it: 64 cells of bytes. -/
def Table (w : World) : Prop := ∀ i, i < 64 → ∃ v : Int, 0 ≤ v ∧ v < 256 ∧ w.cell? ⟨0, i, none⟩ = some (.int .u8 v)

theorem idx_lt (m : Int) : 0 ≤ IntKind.u64.wrap m / 288230376151711744 ∧ IntKind.u64.wrap m / 288230376151711744 < 64 := by
  rw [IntKind.wrap_u64]; omega

set_option maxHeartbeats 400000 in
theorem tz14 (x : Int) (w : World) (h1 : 1 ≤ x) (T : Table w) :
    Calls Tryd.prog 14 #[.int .u64 x] w fun e w' => ∃ v : Int, e = .returned (.int .i64 v) ∧ 0 ≤ v ∧ v < 256 ∧ w' = w := by
  have hi := idx_lt (bits BinOp.and IntKind.u64 x (IntKind.u64.wrap (-x)) * 285870213051353865)
  obtain ⟨v, v0, v1, hc⟩ := T _ ((Int.toNat_lt hi.1).2 hi.2)
  clear T
  go_enter Tryd.func14, Tryd.ntmps14
  go_wp2
  go_ret
  exact ⟨v, rfl, v0, v1, rfl⟩
end Go.Proofs.Qxb6612592aDoor
