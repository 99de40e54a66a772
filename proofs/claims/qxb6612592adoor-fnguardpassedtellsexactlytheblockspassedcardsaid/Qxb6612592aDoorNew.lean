import Derived.Test.Qxb6612592aDoorTz
import Derived.Deep.OwnRows
import Derived.Deep.RegionWith
namespace Go.Proofs.Qxb6612592aDoor
open Go.RowKit

theorem check11 (k : Int) (w : World) : Calls Tryd.prog 11 #[.int .u64 k] w fun e w' => e = .returned (.bool true) ∧ w' = w := by
  go_enter Tryd.func11, Tryd.ntmps11
  go_wp2
  go_ret
  exact ⟨rfl, rfl⟩

theorem wrap_sum (ln sz : Int) (h0 : 0 ≤ ln) (h1 : 1 ≤ sz) (h2 : ln + sz - 1 < 18446744073709551616) : IntKind.u64.wrap (IntKind.u64.wrap (ln + sz) - 1) = ln + sz - 1 := by
  simp only [IntKind.wrap_u64]; omega

theorem Table.alloc {w : World} (T : Table w) (o : Obj) : Table (w.alloc o) := by
  intro i hi
  obtain ⟨v, v0, v1, hc⟩ := T i hi
  have h0 : 0 < w.heap.size := by
    rcases Nat.eq_zero_or_pos w.heap.size with h | h
    · have e : w.heap[0]? = none := by simp [h]
      simp [World.cell?, e] at hc
    · exact h
  exact ⟨v, v0, v1, by rw [World.cell?_alloc_past _ _ _ h0]; exact hc⟩

theorem info36 : (Tryd.prog.info? 36).map (fun i => (i.zero, i.size, i.bytes)) = some (some (.agg #[.int .u64 0]), 1, 8) := by kernel_rfl

theorem make38 (n : Nat) (E : Int) (hE : E = n) (hn : n ≤ 65536) (w : World) :
    (Instr.makeSlice 38 (.int .u64 E) (.int .u64 E)).run Tryd.prog w = .ok (.slice (some ⟨w.heap.size, 0, none⟩) n n) (w.alloc (.cells (madeCells #[.int .u64 0] n) 36)) := by
  subst hE
  obtain ⟨i, hi, hzz⟩ := Option.map_eq_some_iff.1 info36
  simp only [Prod.mk.injEq] at hzz
  obtain ⟨hz, hs, hb⟩ := hzz
  have hr := run_make (P := Tryd.prog) w 38 36 i _ Tryd.underlying38 hi hz .u64 .u64 n n (by omega) (Int.le_refl _) (by rw [hb]; omega) (by omega)
  rw [hs] at hr
  simp only [Int.toNat_natCast, Nat.mul_one] at hr
  exact hr

theorem wrap_len (B : Int) (n : Nat) (B0 : 0 ≤ B) (B1 : B ≤ 65536) (hn : (B + 63) / 64 = n) : IntKind.u64.wrap ((IntKind.u64.wrap (B + 63)).tdiv 64) = n := by
  have e : IntKind.u64.wrap (B + 63) = B + 63 := by rw [IntKind.wrap_u64]; omega
  rw [e, Int.tdiv_eq_ediv_of_nonneg (by omega), hn, IntKind.wrap_u64]
  omega

theorem made_at (n j : Nat) (h : j < n) : (madeCells #[Value.int .u64 0] n)[j]? = some (.int .u64 0) := by
  simp [madeCells, h, Nat.mod_one]

theorem Gd.fresh (w : World) (n : Nat) (sz ln : Int) (q s : Value) :
    Gd ((w.alloc (.cells (madeCells #[.int .u64 0] n) 36)).alloc (.cells #[.int .u64 sz, .int .u64 ln, q, s, .slice (some ⟨w.heap.size, 0, none⟩) n n, .func (.func 11) #[] #[]] 40))
      (w.heap.size + 1) w.heap.size n sz ln (fun _ => false) := by
  refine ⟨by omega, ?_, ?_, ?_, ?_, fun j hj => ⟨0, by decide, ?_, ?_, fun t _ => by simp⟩⟩
  · simp [go_sem]
  · simp [go_sem]
  · simp [go_sem]
  · simp [go_sem]
  · rw [World.cell?_alloc_past _ _ _ (by simp [go_sem])]
    simp [go_sem, made_at n j hj]
  · rw [frozen?_alloc_cells, frozen?_alloc_cells]
    simp [World.frozen?]

theorem Gd.drew {w : World} {b p n : Nat} {sz ln : Int} {S : Nat → Bool} (G : Gd w b p n sz ln S) : Gd w.drew b p n sz ln S :=
  ⟨G.away, G.size, G.length, G.row, G.chk, G.words⟩

set_option maxHeartbeats 1000000 in
theorem new10 (sz ln m B : Int) (n : Nat) (w : World) (h1 : 1 ≤ sz)
    (hm : IntKind.u64.wrap (IntKind.u64.wrap (ln + sz) - 1) = m) (m0 : 0 ≤ m) (m1 : m < 18446744073709551616)
    (hB : m / sz = B) (B0 : 0 ≤ B) (B1 : B ≤ 65536) (hn : (B + 63) / 64 = n) (T : Table w) :
    Calls Tryd.prog 10 #[.int .u64 sz, .int .u64 ln, .func (.func 11) #[] #[]] w fun e w' => e = .returned (.pointer (some ⟨w.heap.size + 1, 0, none⟩)) ∧ Grown w w' ∧ Gd w' (w.heap.size + 1) w.heap.size n sz ln (fun _ => false) := by
  go_enter Tryd.func10, Tryd.ntmps10
  go_wp2
  rw [hB]
  have hmk := make38 n _ (wrap_len B n B0 B1 hn) (by omega)
  clear hB hm hn
  go_region_with (go_at_call 14; refine (tz14 sz _ h1 (by first | exact T | exact T.alloc _)).mono ?_; rintro e w1 ⟨v, rfl, v0, v1, rfl⟩)
  all_goals go_wp2
  all_goals go_ret
  all_goals refine ⟨rfl, by repeat (first | exact Grown.refl _ | apply Grown.drew | apply Grown.alloc), ?_⟩
  all_goals exact (Gd.fresh _ _ _ _ _ _).drew

set_option maxHeartbeats 400000 in
theorem new6 (sz ln m B : Int) (n : Nat) (w : World) (h1 : 1 ≤ sz)
    (hm : IntKind.u64.wrap (IntKind.u64.wrap (ln + sz) - 1) = m) (m0 : 0 ≤ m) (m1 : m < 18446744073709551616)
    (hB : m / sz = B) (B0 : 0 ≤ B) (B1 : B ≤ 65536) (hn : (B + 63) / 64 = n) (T : Table w) :
    Calls Tryd.prog 6 #[.int .u64 sz, .int .u64 ln] w fun e w' => e = .returned (.pointer (some ⟨w.heap.size + 1, 0, none⟩)) ∧ Grown w w' ∧ Gd w' (w.heap.size + 1) w.heap.size n sz ln (fun _ => false) := by
  have C := new10 sz ln m B n w h1 hm m0 m1 hB B0 B1 hn T
  clear hm hB hn
  go_enter Tryd.func6, Tryd.ntmps6
  go_wp2_with fail
  refine C.mono ?_
  rintro e w' ⟨rfl, hg, G⟩
  clear C
  go_wp2_with fail
  go_ret
  exact ⟨rfl, hg, G⟩
end Go.Proofs.Qxb6612592aDoor
