import Derived.Test.Qxb6612592aDoorRead
namespace Go.Proofs.Qxb6612592aDoor
open Go.RowKit

theorem u64_bounds {a : Int} (h : (Lit.int .u64 a).wf = true) : 0 ≤ a ∧ a < 18446744073709551616 := by
  simp [Lit.wf, IntKind.min, IntKind.max, IntKind.bits, IntKind.signed] at h
  omega

theorem readSet_eq (a sz y k : Int) (h1 : 1 ≤ sz) (k0 : 0 ≤ k) (r : Bool) (hr : (decide (k * sz < y) && decide (a < k * sz + sz)) = r) : readSet a sz y k.toNat = r := by
  rw [← hr]
  unfold readSet
  rw [Int.toNat_of_nonneg k0, Bool.eq_iff_iff]
  simp only [Bool.and_eq_true, decide_eq_true_eq]
  have e : a / sz ≤ k ↔ a < k * sz + sz := by
    rw [← Int.lt_add_one_iff, Int.ediv_lt_iff_lt_mul (by omega), Int.add_mul, Int.one_mul]
  rw [e]
  exact And.comm

theorem ret_not {q : Prop} [Decidable q] (h : ¬ q) : Ending.returned (.bool (!decide q)) = .returned (.bool true) := by rw [decide_eq_false h]; rfl

theorem short4 {sz ln a c k : Int} {w : World} (h : Calls Tryd.prog 4 #[.int .u64 sz, .int .u64 ln, .int .u64 a, .int .u64 c, .int .u64 k] w fun e w' => e = .returned (.bool true) ∧ w' = w) :
    Calls Tryd.prog 4 #[.int .u64 sz, .int .u64 ln, .int .u64 a, .int .u64 c, .int .u64 k] w fun e w' => e = .returned (.bool true) ∧ Grown w w' :=
  h.mono (fun _ _ ⟨he, hw⟩ => ⟨he, by rw [hw]; exact Grown.refl _⟩)

set_option maxHeartbeats 400000 in
theorem walk4 (sz ln a c k : Int) (w0 : (Lit.int .u64 sz).wf = true) (w1 : (Lit.int .u64 ln).wf = true) (w2 : (Lit.int .u64 a).wf = true) (w3 : (Lit.int .u64 c).wf = true) (w4 : (Lit.int .u64 k).wf = true) (w : World) (T : Table w) :
    Calls Tryd.prog 4 #[.int .u64 sz, .int .u64 ln, .int .u64 a, .int .u64 c, .int .u64 k] w fun e w' => e = .returned (.bool true) ∧ Grown w w' := by
  obtain ⟨s0, s1⟩ := u64_bounds w0
  obtain ⟨l0, l1⟩ := u64_bounds w1
  obtain ⟨a0, a1⟩ := u64_bounds w2
  obtain ⟨c0, c1⟩ := u64_bounds w3
  obtain ⟨k0, k1⟩ := u64_bounds w4
  clear w0 w1 w2 w3 w4
  by_cases hz : sz = 0
  · have hb : (sz == 0) = true := beq_iff_eq.2 hz
    clear hz
    refine short4 ?_
    go_enter Tryd.func4, Tryd.ntmps4
    go_wp2
    go_ret
    exact ⟨rfl, rfl⟩
  have h1 : 1 ≤ sz := by omega
  have hb : (sz == 0) = false := beq_eq_false_iff_ne.2 hz
  clear hz
  by_cases ho : IntKind.u64.wrap (IntKind.u64.wrap (ln + sz) - 1) < ln
  · refine short4 ?_
    go_enter Tryd.func4, Tryd.ntmps4
    go_wp2
    go_ret
    exact ⟨rfl, rfl⟩
  have hs : ln + sz - 1 < 18446744073709551616 := by
    simp only [IntKind.wrap_u64] at ho; omega
  have ho2 : ln ≤ IntKind.u64.wrap (IntKind.u64.wrap (ln + sz) - 1) := by omega
  obtain ⟨m, hm⟩ : ∃ m, IntKind.u64.wrap (IntKind.u64.wrap (ln + sz) - 1) = m := ⟨_, rfl⟩
  have hm2 : m = ln + sz - 1 := by rw [← hm]; exact wrap_sum ln sz l0 h1 hs
  rw [hm] at ho2
  clear ho
  have m0 : 0 ≤ m := by omega
  have m1 : m < 18446744073709551616 := by omega
  have HM : Hid (m = ln + sz - 1) := hm2
  clear hm2
  obtain ⟨B, hB⟩ : ∃ B, m / sz = B := ⟨_, rfl⟩
  by_cases hbig : 65536 < B
  · refine short4 ?_
    go_enter Tryd.func4, Tryd.ntmps4
    go_wp2
    go_ret
    exact ⟨rfl, rfl⟩
  have B1 : B ≤ 65536 := by omega
  have B0 : 0 ≤ B := by rw [← hB]; exact Int.ediv_nonneg m0 (by omega)
  clear hbig
  by_cases hw : IntKind.u64.wrap (a + c) < a
  · refine short4 ?_
    go_enter Tryd.func4, Tryd.ntmps4
    go_wp2
    go_ret
    exact ⟨rfl, rfl⟩
  have hac : a + c < 18446744073709551616 := by
    simp only [IntKind.wrap_u64] at hw; omega
  clear hw
  by_cases hk : B ≤ k
  · refine short4 ?_
    go_enter Tryd.func4, Tryd.ntmps4
    go_wp2
    go_ret
    exact ⟨rfl, rfl⟩
  have hkB : k < B := by omega
  clear hk
  obtain ⟨n, hn⟩ : ∃ n : Nat, (B + 63) / 64 = n := ⟨((B + 63) / 64).toNat, by omega⟩
  have n1 : n ≤ 1024 := by omega
  have hBn : B ≤ 64 * n := by omega
  have C := new6 sz ln m B n w h1 hm m0 m1 hB B0 B1 hn T
  have hB2 : (ln + sz - 1) / sz = B := by rw [← HM.out]; exact hB
  have hks : k * sz < ln := by
    have e : k + 1 ≤ m / sz := by omega
    rw [Int.le_ediv_iff_mul_le (by omega), Int.add_mul, HM.out] at e
    omega
  have hks0 : 0 ≤ k * sz := Int.mul_nonneg k0 (by omega)
  have hks1 : k * sz + sz < 18446744073709551616 := by omega
  have hmul := wrap_fits (k * sz) hks0 (by omega)
  have HB2 : Hid ((ln + sz - 1) / sz = B) := hB2
  clear hB2 hn
  by_cases hc : ln < a + c
  all_goals by_cases p1 : k * sz < min (a + c) ln
  all_goals by_cases p2 : a < k * sz + sz
  all_goals go_enter Tryd.func4, Tryd.ntmps4
  all_goals go_wp2_with fail
  all_goals refine C.mono ?_
  all_goals rintro e w1 ⟨rfl, hg, G⟩
  all_goals clear C
  all_goals go_wp2_with fail
  all_goals refine (read9 _ _ n sz ln a c B _ n1 h1 s1 l0 hs HB2.out hBn a0 c0 hac G).mono ?_
  all_goals rintro e w2 ⟨rfl, hK, G2⟩
  all_goals clear G
  all_goals go_wp2_with fail
  all_goals have hk64 : k < 64 * n := by omega
  all_goals first
    | (have hr : (decide (k * sz < min (a + c) ln) && decide (a < k * sz + sz)) = true := by
         simp only [Bool.and_eq_true, decide_eq_true_eq]; omega
       have HR : Hid ((decide (k * sz < min (a + c) ln) && decide (a < k * sz + sz)) = true) := hr
       clear hr
       refine (passed7r G2 n1 k k0 hk64 true (readSet_eq a sz _ k h1 k0 _ HR.out)).mono ?_)
    | (have hr : (decide (k * sz < min (a + c) ln) && decide (a < k * sz + sz)) = false := by
         rw [Bool.eq_false_iff]; simp only [ne_eq, Bool.and_eq_true, decide_eq_true_eq]; omega
       have HR : Hid ((decide (k * sz < min (a + c) ln) && decide (a < k * sz + sz)) = false) := hr
       clear hr
       refine (passed7r G2 n1 k k0 hk64 false (readSet_eq a sz _ k h1 k0 _ HR.out)).mono ?_)
  all_goals rintro e w3 ⟨rfl, rfl⟩
  all_goals go_wp2
  all_goals go_ret
  all_goals refine ⟨?_, hK _ (Nat.le_refl _) hg⟩
  all_goals first
    | rfl
    | exact ret_not (by omega)
end Go.Proofs.Qxb6612592aDoor
