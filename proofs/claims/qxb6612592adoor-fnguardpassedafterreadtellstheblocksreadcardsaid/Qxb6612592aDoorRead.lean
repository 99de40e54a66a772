import Derived.Test.Qxb6612592aDoorNew
namespace Go.Proofs.Qxb6612592aDoor
open Go.RowKit

/-- What was new before stays new: only cells of block p are written. -/
def Kept (p : Nat) (w w' : World) : Prop := ∀ W : World, W.heap.size ≤ p → Grown W w → Grown W w'

theorem Kept.refl (p : Nat) (w : World) : Kept p w w := fun _ _ h => h
theorem Kept.set {p : Nat} {w w' : World} (h : Kept p w w') (j : Nat) (v : Value) : Kept p w (w'.setCell ⟨p, j, none⟩ v) := fun W hp hg => (h W hp hg).setCell hp v

theorem Gd.congr {w : World} {b p n : Nat} {sz ln : Int} {S S' : Nat → Bool} (G : Gd w b p n sz ln S) (h : ∀ t, S t = S' t) : Gd w b p n sz ln S' := by
  have e : S = S' := funext h
  rw [← e]; exact G

theorem passed7r {w : World} {b p n : Nat} {sz ln : Int} {S : Nat → Bool} (G : Gd w b p n sz ln S) (hn : n ≤ 1024) (k : Int) (h0 : 0 ≤ k) (hk : k < 64 * n) (r : Bool) (hr : S k.toNat = r) :
    Calls Tryd.prog 7 #[.pointer (some ⟨b, 0, none⟩), .int .u64 k] w fun e w' => e = .returned (.bool r) ∧ w' = w := by
  rw [← hr]; exact passed7 G hn k h0 hk

theorem wrap_fits (x : Int) (h0 : 0 ≤ x) (h1 : x < 18446744073709551616) : IntKind.u64.wrap x = x := by
  rw [IntKind.wrap_u64]; omega

theorem below_B {k sz ln B : Int} (h1 : 1 ≤ sz) (hB : (ln + sz - 1) / sz = B) (h : k * sz < ln) : k < B := by
  have e : k + 1 ≤ (ln + sz - 1) / sz := by
    rw [Int.le_ediv_iff_mul_le (by omega), Int.add_mul]
    omega
  omega

theorem grow_set (q k : Int) (t : Nat) (hk : q ≤ k) (hk0 : 0 ≤ k) : (decide (q ≤ (t : Int) ∧ (t : Int) < k) || decide (k.toNat = t)) = decide (q ≤ (t : Int) ∧ (t : Int) < k + 1) := by
  rw [Bool.eq_iff_iff]
  simp only [Bool.or_eq_true, decide_eq_true_eq]
  omega

/-- Block t is among those that hold some of the bytes from a on, up to y. -/
def readSet (a sz y : Int) (t : Nat) : Bool := decide (a / sz ≤ (t : Int) ∧ (t : Int) * sz < y)

theorem read_set (a sz k x y : Int) (t : Nat) (h1 : 1 ≤ sz) (hxy : x = y) (hk2 : k ≤ a / sz ∨ (k - 1) * sz < x) (hlt : ¬ k * sz < x) :
    decide (a / sz ≤ (t : Int) ∧ (t : Int) < k) = readSet a sz y t := by
  subst hxy
  unfold readSet
  rw [decide_eq_decide]
  constructor
  · rintro ⟨e1, e2⟩
    refine ⟨e1, ?_⟩
    have h2 : (t : Int) * sz ≤ (k - 1) * sz := Int.mul_le_mul_of_nonneg_right (by omega) (by omega)
    omega
  · rintro ⟨e1, e2⟩
    refine ⟨e1, ?_⟩
    by_cases h : (t : Int) < k
    · exact h
    · have h2 : k * sz ≤ (t : Int) * sz := Int.mul_le_mul_of_nonneg_right (by omega) (by omega)
      omega

set_option maxHeartbeats 400000 in
theorem read9 (b p n : Nat) (sz ln a c B : Int) (w : World) (hn : n ≤ 1024) (h1 : 1 ≤ sz) (h2 : sz < 18446744073709551616) (h0 : 0 ≤ ln) (h3 : ln + sz - 1 < 18446744073709551616)
    (hB : (ln + sz - 1) / sz = B) (hBn : B ≤ 64 * n) (a0 : 0 ≤ a) (c0 : 0 ≤ c) (hac : a + c < 18446744073709551616)
    (G : Gd w b p n sz ln (fun _ => false)) :
    Calls Tryd.prog 9 #[.pointer (some ⟨b, 0, none⟩), .int .u64 a, .int .u64 c] w fun e w' => e = .returned (.tuple #[]) ∧ Kept p w w' ∧
      Gd w' b p n sz ln (readSet a sz (min (a + c) ln)) := by
  have g0 := G.size
  have g1 := G.length
  have q0 : 0 ≤ a / sz := Int.ediv_nonneg a0 (by omega)
  have q1 : a / sz * sz < 18446744073709551616 := by
    have := Int.ediv_mul_le a (b := sz) (by omega)
    omega
  by_cases hc : a + c ≤ ln
  · skip
    go_enter Tryd.func9, Tryd.ntmps9
    go_wp2
    go_loopw [7] (fun t w1 => ∃ k : Int, a / sz ≤ k ∧ 0 ≤ k ∧ k * sz < 18446744073709551616 ∧ (k ≤ a / sz ∨ (k - 1) * sz < (a + c)) ∧ t = .int .u64 k ∧ Kept p w w1 ∧ Gd w1 b p n sz ln (fun t => decide (a / sz ≤ (t : Int) ∧ (t : Int) < k))) (fun t _ => (18446744073709551616 - intOf t).toNat)
    case atStart =>
      exact ⟨a / sz, Int.le_refl _, q0, q1, Or.inl (Int.le_refl _), rfl, Kept.refl p w, G.congr (fun t => (decide_eq_false (by omega)).symm)⟩
    case round =>
      clear g0 g1 G
      obtain ⟨k, hk, hk0, hk1, hk2, rfl, hK, G1⟩ := hrel
      have g0 := G1.size
      have g5 := G1.chk
      have hmul := wrap_fits (k * sz) (Int.mul_nonneg hk0 (by omega)) hk1
      by_cases hlt : k * sz < (a + c)
      · have hkB : k < B := below_B h1 hB (by omega)
        have hk64 : k < 64 * n := by omega
        have hS : (fun t : Nat => decide (a / sz ≤ (t : Int) ∧ (t : Int) < k)) k.toNat = false := decide_eq_false (by omega)
        have hnx : (k + 1) * sz < 18446744073709551616 := by rw [Int.add_mul]; omega
        have HS : Hid ((fun t : Nat => decide (a / sz ≤ (t : Int) ∧ (t : Int) < k)) k.toNat = false) := hS
        clear hS hB
        go_wp2_with (first
          | (go_at_call 7; refine (passed7r G1 hn k hk0 hk64 false HS.out).mono ?_; rintro e w2 ⟨rfl, rfl⟩)
          | (go_at_call 11; refine (check11 _ _).mono ?_; rintro e w2 ⟨rfl, rfl⟩)
          | (go_at_call 8; refine (pass8 G1 hn k hk0 hk64).mono ?_; rintro e w2 ⟨rfl, ⟨j, v, rfl⟩, G2⟩))
        go_roundw
        case rel =>
          exact ⟨k + 1, by omega, by omega, hnx, Or.inr (by rw [Int.add_sub_cancel]; exact hlt), rfl, hK.set _ _, G2.congr (fun t => grow_set (a / sz) k t hk hk0)⟩
        case measure => simp [intOf]; omega
      · go_wp2
        go_end0
        exact ⟨rfl, hK, G1.congr (fun t => read_set a sz k (a + c) (min (a + c) ln) t h1 (by omega) hk2 (by omega))⟩
  · skip
    go_enter Tryd.func9, Tryd.ntmps9
    go_wp2
    go_loopw [7] (fun t w1 => ∃ k : Int, a / sz ≤ k ∧ 0 ≤ k ∧ k * sz < 18446744073709551616 ∧ (k ≤ a / sz ∨ (k - 1) * sz < ln) ∧ t = .int .u64 k ∧ Kept p w w1 ∧ Gd w1 b p n sz ln (fun t => decide (a / sz ≤ (t : Int) ∧ (t : Int) < k))) (fun t _ => (18446744073709551616 - intOf t).toNat)
    case atStart =>
      exact ⟨a / sz, Int.le_refl _, q0, q1, Or.inl (Int.le_refl _), rfl, Kept.refl p w, G.congr (fun t => (decide_eq_false (by omega)).symm)⟩
    case round =>
      clear g0 g1 G
      obtain ⟨k, hk, hk0, hk1, hk2, rfl, hK, G1⟩ := hrel
      have g0 := G1.size
      have g5 := G1.chk
      have hmul := wrap_fits (k * sz) (Int.mul_nonneg hk0 (by omega)) hk1
      by_cases hlt : k * sz < ln
      · have hkB : k < B := below_B h1 hB (by omega)
        have hk64 : k < 64 * n := by omega
        have hS : (fun t : Nat => decide (a / sz ≤ (t : Int) ∧ (t : Int) < k)) k.toNat = false := decide_eq_false (by omega)
        have hnx : (k + 1) * sz < 18446744073709551616 := by rw [Int.add_mul]; omega
        have HS : Hid ((fun t : Nat => decide (a / sz ≤ (t : Int) ∧ (t : Int) < k)) k.toNat = false) := hS
        clear hS hB
        go_wp2_with (first
          | (go_at_call 7; refine (passed7r G1 hn k hk0 hk64 false HS.out).mono ?_; rintro e w2 ⟨rfl, rfl⟩)
          | (go_at_call 11; refine (check11 _ _).mono ?_; rintro e w2 ⟨rfl, rfl⟩)
          | (go_at_call 8; refine (pass8 G1 hn k hk0 hk64).mono ?_; rintro e w2 ⟨rfl, ⟨j, v, rfl⟩, G2⟩))
        go_roundw
        case rel =>
          exact ⟨k + 1, by omega, by omega, hnx, Or.inr (by rw [Int.add_sub_cancel]; exact hlt), rfl, hK.set _ _, G2.congr (fun t => grow_set (a / sz) k t hk hk0)⟩
        case measure => simp [intOf]; omega
      · go_wp2
        go_end0
        exact ⟨rfl, hK, G1.congr (fun t => read_set a sz k ln (min (a + c) ln) t h1 (by omega) hk2 (by omega))⟩
end Go.Proofs.Qxb6612592aDoor
