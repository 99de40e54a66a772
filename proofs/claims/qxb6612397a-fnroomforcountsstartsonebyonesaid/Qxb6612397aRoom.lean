import Derived.Test.Qxb6612397aWk
import Derived.Deep.QuietTactic
import Derived.BigQuiet
namespace Go.Proofs.Qxb6612397a
open Go.RowKit

def first (l f i : Int) : Int := if i = 0 ∧ f < l then max 1 (max 0 (l / 2 - f)) else max 0 (l / 2 - f)
def roomFor (l f i t : Int) : Int := min (first l f i) (room t i)

set_option maxHeartbeats 400000 in
theorem roomFor8 (c d : Nat) (l f i t : Int) (w : World) (hl : 1 ≤ l) (hl2 : l ≤ 65536) (hf : 0 ≤ f) (hf2 : f ≤ l) (hi : 0 ≤ i) (hi2 : i ≤ f) (ht : 0 ≤ t) (ht2 : t ≤ 1073741824)
    (c1 : w.cell? ⟨c, 3, none⟩ = some (.int .i64 l)) (c2 : w.cell? ⟨c, 13, none⟩ = some (.int .i64 f)) (c3 : w.cell? ⟨d, 2, none⟩ = some (.int .i64 i)) (c4 : w.cell? ⟨d, 9, none⟩ = some (.int .i64 t)) :
    Calls Try.prog 8 #[.pointer (some ⟨c, 0, none⟩), .pointer (some ⟨d, 0, none⟩)] w fun e w' => e = .returned (.int .i64 (roomFor l f i t)) ∧ ∃ n, w' = w.drewN n := by
  have hm : (if f < l / 2 then l / 2 - f else (0 : Int)) = max 0 (l / 2 - f) := by split <;> omega
  by_cases h0 : i = 0
  · by_cases hlt : f < l
    · have hb : (i == 0) = true := beq_iff_eq.2 h0
      have hd : decide (f < l) = true := decide_eq_true hlt
      have hfin : roomFor l f i t = min (max 1 (max 0 (l / 2 - f))) (room t i) := by
        unfold roomFor first; rw [if_pos ⟨h0, hlt⟩]
      rw [hfin]
      clear hfin h0
      go_enter Try.func8, Try.ntmps8
      go_wp2
      go_quiet (fail)
      clear hm
      generalize hmx : max 0 (l / 2 - f) = m at *
      have m1 : 0 ≤ m := by omega
      have m2 : m ≤ 65536 := by omega
      have M : Hid (max 0 (l / 2 - f) = m) := hmx
      clear hmx
      go_wp2
      go_quiet (fail)
      go_wp2
      all_goals (go_quiet ((go_at_call 9; refine (room9 _ _ _ _ _ ht ht2 hi (by omega) (by simpa using c4)).mono ?_; rintro e w2 ⟨he, rfl⟩; exact ⟨he, _, rfl⟩)))
      all_goals go_wp2
      all_goals go_ret
      all_goals exact ⟨ret_int (by have hx := M.out; omega), _, rfl⟩
    · have hb : (i == 0) = true := beq_iff_eq.2 h0
      have hd : decide (f < l) = false := decide_eq_false hlt
      have hfin : roomFor l f i t = min (max 0 (l / 2 - f)) (room t i) := by
        unfold roomFor first; rw [if_neg (fun h => hlt h.2)]
      rw [hfin]
      clear hfin h0
      go_enter Try.func8, Try.ntmps8
      go_wp2
      go_quiet (fail)
      clear hm
      generalize hmx : max 0 (l / 2 - f) = m at *
      have m1 : 0 ≤ m := by omega
      have m2 : m ≤ 65536 := by omega
      have M : Hid (max 0 (l / 2 - f) = m) := hmx
      clear hmx
      go_wp2
      go_quiet (fail)
      go_wp2
      all_goals (go_quiet ((go_at_call 9; refine (room9 _ _ _ _ _ ht ht2 hi (by omega) (by simpa using c4)).mono ?_; rintro e w2 ⟨he, rfl⟩; exact ⟨he, _, rfl⟩)))
      all_goals go_wp2
      all_goals go_ret
      all_goals exact ⟨ret_int (by have hx := M.out; omega), _, rfl⟩
  · have hb : (i == 0) = false := beq_eq_false_iff_ne.2 h0
    have hfin : roomFor l f i t = min (max 0 (l / 2 - f)) (room t i) := by
      unfold roomFor first; rw [if_neg (fun h => h0 h.1)]
    rw [hfin]
    clear hfin h0
    go_enter Try.func8, Try.ntmps8
    go_wp2
    go_quiet (fail)
    clear hm
    generalize hmx : max 0 (l / 2 - f) = m at *
    have m1 : 0 ≤ m := by omega
    have m2 : m ≤ 65536 := by omega
    have M : Hid (max 0 (l / 2 - f) = m) := hmx
    clear hmx
    go_wp2
    go_quiet (fail)
    go_wp2
    all_goals (go_quiet ((go_at_call 9; refine (room9 _ _ _ _ _ ht ht2 hi (by omega) (by simpa using c4)).mono ?_; rintro e w2 ⟨he, rfl⟩; exact ⟨he, _, rfl⟩)))
    all_goals go_wp2
    all_goals go_ret
    all_goals exact ⟨ret_int (by have hx := M.out; omega), _, rfl⟩

set_option maxHeartbeats 400000 in
theorem zzRoom6 (c d : Nat) (l f i t : Int) (w : World) (hl : 1 ≤ l) (hl2 : l ≤ 65536) (hf : 0 ≤ f) (hf2 : f ≤ l) (hi : 0 ≤ i) (hi2 : i ≤ f) (ht : 0 ≤ t) (ht2 : t ≤ 1073741824)
    (c1 : w.cell? ⟨c, 3, none⟩ = some (.int .i64 l)) (c2 : w.cell? ⟨c, 13, none⟩ = some (.int .i64 f)) (c3 : w.cell? ⟨d, 2, none⟩ = some (.int .i64 i)) (c4 : w.cell? ⟨d, 9, none⟩ = some (.int .i64 t)) :
    Calls Try.prog 6 #[.pointer (some ⟨c, 0, none⟩), .pointer (some ⟨d, 0, none⟩)] w fun e w' => e = .returned (.int .i64 (roomFor l f i t)) ∧ ∃ n, w' = w.drewN n := by
  go_enter Try.func6, Try.ntmps6
  go_wp2_with fail
  refine (roomFor8 c d l f i t _ hl hl2 hf hf2 hi hi2 ht ht2 c1 c2 c3 c4).mono ?_
  rintro e w2 ⟨rfl, n, rfl⟩
  go_wp2_with fail
  go_ret
  exact ⟨rfl, n, rfl⟩
end Go.Proofs.Qxb6612397a
