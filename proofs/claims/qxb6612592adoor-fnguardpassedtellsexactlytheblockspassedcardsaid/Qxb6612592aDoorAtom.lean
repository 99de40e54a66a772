import Derived.Test.Qxb6612592aDoorRows
import Derived.WalkKit
import Derived.ProofKit
import Derived.Laws.LoneSync
namespace Go.Proofs.Qxb6612592aDoor
open Go.RowKit

/-- sync/atomic.OrUint64: the old number is handed back, the two numbers' bits joined are stored. -/
theorem run_or16 {a : Addr} {x y : Int} {w : World} (hc : w.cell? a = some (.int .u64 x)) (hz : w.frozen? a = false) :
    (callFunc 16 #[.pointer (some a), .int .u64 y]).run Tryd.prog w = .ok (.value (.int .u64 x)) (w.setCell a (.int .u64 (bits .or .u64 x y))) := by
  rw [run_callFunc_extern (e := Extern.Atomic.update (Op.intBits .or) .u64 false) Tryd.func16 (by kernel_rfl) (by kernel_rfl) (by kernel_rfl) (by kernel_rfl)]
  change (Sem.run Tryd.prog (do
    let a' ← asAddr (.pointer (some a))
    let old ← Extern.Atomic.read (.int .u64) a'
    let new ← Op.intBits .or .u64 (← asInt old) (← asInt (.int .u64 y))
    store a' new .atomic
    pure (if false = true then new else old)) w).andThen _ = _
  simp [Extern.Atomic.read, asAddr, asInt, asIntOf, hc, hz, intBits_or, run_store Tryd.prog w a (.int .u64 (bits .or .u64 x y)) .atomic rfl, Result.andThen]

theorem load12 (p j : Nat) (x : Int) (w : World) (hc : w.cell? ⟨p, j, none⟩ = some (.int .u64 x)) :
    Calls Tryd.prog 12 #[.pointer (some ⟨p, j, none⟩)] w fun e w' => e = .returned (.int .u64 x) ∧ w' = w := by
  have hl := run_call_load (P := Tryd.prog) Tryd.func15 (by kernel_rfl) (by kernel_rfl) (by kernel_rfl) .u64 (by kernel_rfl) hc
  go_enter Tryd.func12, Tryd.ntmps12
  go_wp2
  go_ret
  exact ⟨rfl, rfl⟩

theorem or13 (p j : Nat) (x y : Int) (w : World) (hc : w.cell? ⟨p, j, none⟩ = some (.int .u64 x)) (hz : w.frozen? ⟨p, j, none⟩ = false) :
    Calls Tryd.prog 13 #[.pointer (some ⟨p, j, none⟩), .int .u64 y] w fun e w' => e = .returned (.int .u64 x) ∧ w' = w.setCell ⟨p, j, none⟩ (.int .u64 (bits .or .u64 x y)) := by
  have hl := run_or16 (y := y) hc hz
  go_enter Tryd.func13, Tryd.ntmps13
  go_wp2
  go_ret
  exact ⟨rfl, rfl⟩
end Go.Proofs.Qxb6612592aDoor
