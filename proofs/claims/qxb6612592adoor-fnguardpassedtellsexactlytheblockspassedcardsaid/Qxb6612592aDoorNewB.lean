import Derived.Test.Qxb6612592aDoorNew
import Derived.Below
namespace Go.Proofs.Qxb6612592aDoor
open Go.RowKit

set_option maxHeartbeats 1000000 in
theorem new10b (sz ln m B : Int) (n : Nat) (w : World) (h1 : 1 ≤ sz)
    (hm : IntKind.u64.wrap (IntKind.u64.wrap (ln + sz) - 1) = m) (m0 : 0 ≤ m) (m1 : m < 18446744073709551616)
    (hB : m / sz = B) (B0 : 0 ≤ B) (B1 : B ≤ 65536) (hn : (B + 63) / 64 = n) (T : Table w) :
    Calls Tryd.prog 10 #[.int .u64 sz, .int .u64 ln, .func (.func 11) #[] #[]] w fun e w' => e = .returned (.pointer (some ⟨w.heap.size + 1, 0, none⟩)) ∧ Below w.heap.size w w' ∧ Gd w' (w.heap.size + 1) w.heap.size n sz ln (fun _ => false) := by
  go_enter Tryd.func10, Tryd.ntmps10
  go_wp2
  rw [hB]
  have hmk := make38 n _ (wrap_len B n B0 B1 hn) (by omega)
  clear hB hm hn
  go_region_with (go_at_call 14; refine (tz14 sz _ h1 (by first | exact T | exact T.alloc _)).mono ?_; rintro e w1 ⟨v, rfl, v0, v1, rfl⟩)
  all_goals go_wp2
  all_goals go_ret
  all_goals refine ⟨rfl, (((Below.refl _ _).alloc (Nat.le_refl _) _).alloc (by simp [go_sem]) _).drew, ?_⟩
  all_goals exact (Gd.fresh _ _ _ _ _ _).drew

set_option maxHeartbeats 400000 in
theorem new6b (sz ln m B : Int) (n : Nat) (w : World) (h1 : 1 ≤ sz)
    (hm : IntKind.u64.wrap (IntKind.u64.wrap (ln + sz) - 1) = m) (m0 : 0 ≤ m) (m1 : m < 18446744073709551616)
    (hB : m / sz = B) (B0 : 0 ≤ B) (B1 : B ≤ 65536) (hn : (B + 63) / 64 = n) (T : Table w) :
    Calls Tryd.prog 6 #[.int .u64 sz, .int .u64 ln] w fun e w' => e = .returned (.pointer (some ⟨w.heap.size + 1, 0, none⟩)) ∧ Below w.heap.size w w' ∧ Gd w' (w.heap.size + 1) w.heap.size n sz ln (fun _ => false) := by
  have C := new10b sz ln m B n w h1 hm m0 m1 hB B0 B1 hn T
  clear hm hB hn
  go_enter Tryd.func6, Tryd.ntmps6
  go_wp2_with fail
  refine C.mono ?_
  rintro e w' ⟨rfl, hg, G⟩
  clear C
  go_wp2_with fail
  go_ret
  exact ⟨rfl, hg, G⟩
end Go.Proofs.Qxb6612592aDoor
