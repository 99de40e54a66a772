import Derived.Test.Qxb6612397aRows
import Derived.WalkKit
import Derived.ProofKit
namespace Go.Proofs.Qxb6612397a
open Go.RowKit

/-- A fresh 'caps' of the given limit and attempts in flight, cell by cell. -/
def capsCells (l f : Int) : Array Value :=
  #[.int .i64 0, .int .i64 0, .map none, .int .i64 l, .int .i64 0, .int .i64 0, .int .i64 0, .nilFunc, .int .i32 0, .int .u32 0,
    .map none, .map none, .map none, .int .i64 f, .int .i64 0, .map none, .map none, .int .u64 0, .int .i64 0, .pointer none]
/-- A fresh 'endpointLoad' of the given attempts in flight and throttle. -/
def loadCells (i t : Int) : Array Value :=
  #[.string ⟨#[]⟩, .pointer none, .int .i64 i, .bool false, .string ⟨#[]⟩, .int .i64 0, .slice none 0 0, .int .i64 0, .bool false, .int .i64 t,
    .int .i64 0, .int .i64 0, .int .u64 0, .int .i64 0, .pointer none, .slice none 0 0, .int .i64 0, .int .u64 0, .int .i64 0, .pointer none]

theorem newCaps4 (l f : Int) (w : World) :
    Calls Try.prog 4 #[.int .i64 l, .int .i64 f] w fun e w' => e = .returned (.pointer (some ⟨w.heap.size, 0, none⟩)) ∧ w' = w.alloc (.cells (capsCells l f) 51) := by
  go_enter Try.func4, Try.ntmps4
  go_wp2
  go_ret
  exact ⟨rfl, rfl⟩

theorem newLoad5 (i t : Int) (w : World) :
    Calls Try.prog 5 #[.int .i64 i, .int .i64 t] w fun e w' => e = .returned (.pointer (some ⟨w.heap.size, 0, none⟩)) ∧ w' = w.alloc (.cells (loadCells i t) 62) := by
  go_enter Try.func5, Try.ntmps5
  go_wp2
  go_ret
  exact ⟨rfl, rfl⟩

def topInt : Int := 9223372036854775807
def room (t i : Int) : Int := if t = 0 then topInt else max 0 (t - i)

theorem ret_int {k : IntKind} {a b : Int} (h : a = b) : Ending.returned (.int k a) = .returned (.int k b) := by rw [h]

theorem room9 (b o : Nat) (t i : Int) (w : World) (ht : 0 ≤ t) (ht2 : t ≤ 1073741824) (hi : 0 ≤ i) (hi2 : i ≤ 65536) (hc : w.cell? ⟨b, o, none⟩ = some (.int .i64 t)) :
    Calls Try.prog 9 #[.pointer (some ⟨b, o, none⟩), .int .i64 i] w fun e w' => e = .returned (.int .i64 (room t i)) ∧ w' = w := by
  by_cases h0 : t = 0
  · have hr : room t i = topInt := if_pos h0
    have h : (t == 0) = true := beq_iff_eq.2 h0
    rw [hr]
    clear hr h0
    go_enter Try.func9, Try.ntmps9
    go_wp2
    go_ret
    exact ⟨rfl, rfl⟩
  · have h : (t == 0) = false := beq_eq_false_iff_ne.2 h0
    have hr : room t i = max 0 (t - i) := if_neg h0
    rw [hr]
    clear hr h0
    go_enter Try.func9, Try.ntmps9
    go_wp2
    · go_ret
      exact ⟨ret_int (by omega), rfl⟩
    · go_ret
      exact ⟨ret_int (by omega), rfl⟩
end Go.Proofs.Qxb6612397a
