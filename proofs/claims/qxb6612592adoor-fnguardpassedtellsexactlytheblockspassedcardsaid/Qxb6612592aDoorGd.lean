import Derived.Test.Qxb6612592aDoorBits
namespace Go.Proofs.Qxb6612592aDoor
open Go.RowKit

/-- The n words at block p hold the set S, bit t of word j for 64 * j + t. -/
def Words (w : World) (p n : Nat) (S : Nat → Bool) : Prop :=
  ∀ j, j < n → ∃ x : Nat, x < 18446744073709551616 ∧ w.cell? ⟨p, j, none⟩ = some (.int .u64 x) ∧ w.frozen? ⟨p, j, none⟩ = false ∧ ∀ t, t < 64 → x.testBit t = S (64 * j + t)

/-- A guard at block b, its words at block p. -/
structure Gd (w : World) (b p n : Nat) (sz ln : Int) (S : Nat → Bool) : Prop where
  away : b ≠ p
  size : w.cell? ⟨b, 0, none⟩ = some (.int .u64 sz)
  length : w.cell? ⟨b, 1, none⟩ = some (.int .u64 ln)
  row : w.cell? ⟨b, 4, none⟩ = some (.slice (some ⟨p, 0, none⟩) n n)
  chk : w.cell? ⟨b, 5, none⟩ = some (.func (.func 11) #[] #[])
  words : Words w p n S

set_option maxHeartbeats 400000 in
theorem passedAt (b p n k : Nat) (x : Nat) (w : World) (hx : x < 18446744073709551616) (hn : n ≤ 1024) (hk : k < 64 * n)
    (c4 : w.cell? ⟨b, 4, none⟩ = some (.slice (some ⟨p, 0, none⟩) n n)) (cx : w.cell? ⟨p, k / 64, none⟩ = some (.int .u64 x)) :
    Calls Tryd.prog 7 #[.pointer (some ⟨b, 0, none⟩), .int .u64 k] w fun e w' => e = .returned (.bool (x.testBit (k % 64))) ∧ w' = w := by
  have hlt : (k : Int) / 64 < n := by omega
  go_enter Tryd.func7, Tryd.ntmps7
  go_wp2_with fail
  refine (load12 _ _ _ _ cx).mono ?_
  rintro e w1 ⟨rfl, rfl⟩
  go_wp2_with fail
  go_ret
  exact ⟨congrArg (fun q => Ending.returned (.bool q)) (and_bit x (k % 64) hx (Nat.mod_lt _ (by decide))), rfl⟩

theorem passed7 {w : World} {b p n : Nat} {sz ln : Int} {S : Nat → Bool} (G : Gd w b p n sz ln S) (hn : n ≤ 1024) (k : Int) (h0 : 0 ≤ k) (hk : k < 64 * n) :
    Calls Tryd.prog 7 #[.pointer (some ⟨b, 0, none⟩), .int .u64 k] w fun e w' => e = .returned (.bool (S k.toNat)) ∧ w' = w := by
  obtain ⟨k, rfl⟩ := Int.eq_ofNat_of_zero_le h0
  rw [Int.toNat_natCast]
  have hk' : k < 64 * n := by omega
  obtain ⟨x, hx, cx, _, ht⟩ := G.words (k / 64) (by omega)
  refine (passedAt b p n k x w hx hn hk' G.row cx).mono ?_
  rintro e w' ⟨rfl, rfl⟩
  refine ⟨?_, rfl⟩
  rw [ht (k % 64) (Nat.mod_lt _ (by decide)), Nat.div_add_mod]

set_option maxHeartbeats 400000 in
theorem passAt (b p n k : Nat) (x : Nat) (w : World) (hn : n ≤ 1024) (hk : k < 64 * n)
    (c4 : w.cell? ⟨b, 4, none⟩ = some (.slice (some ⟨p, 0, none⟩) n n)) (cx : w.cell? ⟨p, k / 64, none⟩ = some (.int .u64 x)) (cz : w.frozen? ⟨p, k / 64, none⟩ = false) :
    Calls Tryd.prog 8 #[.pointer (some ⟨b, 0, none⟩), .int .u64 k] w fun e w' => e = .returned (.tuple #[]) ∧ w' = w.setCell ⟨p, k / 64, none⟩ (.int .u64 (bits .or .u64 x (IntKind.u64.wrap (2 ^ (k % 64))))) := by
  have hlt : (k : Int) / 64 < n := by omega
  go_enter Tryd.func8, Tryd.ntmps8
  go_wp2_with fail
  refine (or13 _ _ _ _ _ cx cz).mono ?_
  rintro e w1 ⟨rfl, rfl⟩
  go_wp2_with fail
  go_end0
  exact ⟨rfl, rfl⟩

theorem cell_set_same {w : World} {p j : Nat} {u v : Value} (h : w.cell? ⟨p, j, none⟩ = some u) : (w.setCell ⟨p, j, none⟩ v).cell? ⟨p, j, none⟩ = some v := by
  exact World.cell?_setCell_same' _ _ _ (by rw [h]; rfl)
theorem cell_set_other {w : World} {p j b o : Nat} {v : Value} (h : ¬ (b = p ∧ o = j)) : (w.setCell ⟨p, j, none⟩ v).cell? ⟨b, o, none⟩ = w.cell? ⟨b, o, none⟩ := by
  apply World.cell?_setCell_other
  intro e
  cases e
  exact h ⟨rfl, rfl⟩

theorem pass8 {w : World} {b p n : Nat} {sz ln : Int} {S : Nat → Bool} (G : Gd w b p n sz ln S) (hn : n ≤ 1024) (k : Int) (h0 : 0 ≤ k) (hk : k < 64 * n) :
    Calls Tryd.prog 8 #[.pointer (some ⟨b, 0, none⟩), .int .u64 k] w fun e w' => e = .returned (.tuple #[]) ∧ (∃ j v, w' = w.setCell ⟨p, j, none⟩ v) ∧ Gd w' b p n sz ln (fun t => S t || decide (k.toNat = t)) := by
  obtain ⟨k, rfl⟩ := Int.eq_ofNat_of_zero_le h0
  rw [Int.toNat_natCast]
  have hk' : k < 64 * n := by omega
  obtain ⟨x, hx, cx, cz, ht⟩ := G.words (k / 64) (by omega)
  obtain ⟨y, ey, hy, hb⟩ := or_bit x (k % 64) hx (Nat.mod_lt _ (by decide))
  refine (passAt b p n k x w hn hk' G.row cx cz).mono ?_
  rintro e w' ⟨rfl, rfl⟩
  rw [ey]
  refine ⟨rfl, ⟨_, _, rfl⟩, G.away, ?_, ?_, ?_, ?_, ?_⟩
  · rw [cell_set_other (fun h => G.away h.1)]; exact G.size
  · rw [cell_set_other (fun h => G.away h.1)]; exact G.length
  · rw [cell_set_other (fun h => G.away h.1)]; exact G.row
  · rw [cell_set_other (fun h => G.away h.1)]; exact G.chk
  · intro j hj
    by_cases e : j = k / 64
    · subst e
      refine ⟨y, hy, cell_set_same cx, by rw [World.frozen?_setCell]; exact cz, fun t h => ?_⟩
      rw [hb t, ht t h]
      congr 1
      rw [decide_eq_decide]
      omega
    · obtain ⟨x', hx', cx', cz', ht'⟩ := G.words j hj
      refine ⟨x', hx', by rw [cell_set_other (fun h => e h.2)]; exact cx', by rw [World.frozen?_setCell]; exact cz', fun t h => ?_⟩
      rw [ht' t h]
      have : ¬ k = 64 * j + t := by omega
      simp [this]
end Go.Proofs.Qxb6612592aDoor
