import Derived.Test.Qxb6612518aRows
import Derived.WalkKit
import Derived.ProofKit
namespace Go.Proofs.Qxb6612518a
open Go.RowKit

theorem ret_int {k : IntKind} {a b : Int} (h : a = b) : Ending.returned (.int k a) = .returned (.int k b) := by rw [h]

theorem wrap_once (n : Int) (h0 : 0 ≤ n) (h1 : n ≤ 9223372036854775708) : wrap64 (wrap64 (n + 100) - 1) = n + 99 := by
  simp only [wrap64]; omega

theorem wrap_quo (n : Int) (h0 : 0 ≤ n) (h1 : n ≤ 9223372036854775708) : wrap64 ((wrap64 (wrap64 (n + 100) - 1)).tdiv 100) = (n + 99) / 100 := by
  rw [wrap_once n h0 h1, Int.tdiv_eq_ediv_of_nonneg (by omega)]
  simp only [wrap64]; omega

set_option maxHeartbeats 400000 in
theorem batches6 (n : Int) (w : World) (h0 : 0 ≤ n) (h1 : n ≤ 9223372036854775708) :
    Calls Try.prog 6 #[.int .i64 n] w fun e w' => e = .returned (.int .i64 ((n + 99) / 100)) ∧ w' = w := by
  have hq : Hid (wrap64 ((wrap64 (wrap64 (n + 100) - 1)).tdiv 100) = (n + 99) / 100) := wrap_quo n h0 h1
  go_enter Try.func6, Try.ntmps6
  go_wp2
  go_ret
  exact ⟨ret_int hq.out, rfl⟩

set_option maxHeartbeats 400000 in
theorem batches5 (n : Int) (w : World) (h0 : 0 ≤ n) (h1 : n ≤ 9223372036854775708) :
    Calls Try.prog 5 #[.int .i64 n] w fun e w' => e = .returned (.int .i64 ((n + 99) / 100)) ∧ w' = w := by
  go_enter Try.func5, Try.ntmps5
  go_wp2_with fail
  refine (batches6 n _ h0 h1).mono ?_
  rintro e w1 ⟨rfl, rfl⟩
  go_wp2_with fail
  go_ret
  exact ⟨rfl, rfl⟩
end Go.Proofs.Qxb6612518a
