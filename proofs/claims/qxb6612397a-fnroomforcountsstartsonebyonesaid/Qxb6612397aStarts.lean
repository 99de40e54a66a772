import Derived.Test.Qxb6612397aRoom
namespace Go.Proofs.Qxb6612397a
open Go.RowKit

/-- One more attempt starts. -/
def Goes (l f i t k : Int) : Prop := f + k < l ∧ (f + k < l / 2 ∨ (k = 0 ∧ i = 0)) ∧ (t = 0 ∨ i + k < t)

theorem goes_lt {l f i t k : Int} (hl : 1 ≤ l) (hl2 : l ≤ 65536) (hf : 0 ≤ f) (hf2 : f ≤ l) (hi : 0 ≤ i) (ht : 0 ≤ t) (h0 : 0 ≤ k) (h : Goes l f i t k) : k + 1 ≤ roomFor l f i t := by
  unfold Goes at h; unfold roomFor first room topInt; split <;> split <;> omega

theorem stops_eq {l f i t k : Int} (hl : 1 ≤ l) (hl2 : l ≤ 65536) (hf : 0 ≤ f) (hf2 : f ≤ l) (hi : 0 ≤ i) (ht : 0 ≤ t) (h0 : 0 ≤ k) (hk : k ≤ roomFor l f i t) (h : ¬ Goes l f i t k) : k = roomFor l f i t := by
  unfold Goes at h; revert hk; unfold roomFor first room topInt; split <;> split <;> omega

set_option maxHeartbeats 400000 in
theorem starts7 (l f i t : Int) (w : World) (hl : 1 ≤ l) (hl2 : l ≤ 65536) (hf : 0 ≤ f) (hf2 : f ≤ l) (hi : 0 ≤ i) (hi2 : i ≤ f) (ht : 0 ≤ t) (ht2 : t ≤ 1073741824) :
    Calls Try.prog 7 #[.int .i64 l, .int .i64 f, .int .i64 i, .int .i64 t] w fun e w' => e = .returned (.int .i64 (roomFor l f i t)) ∧ w' = w := by
  have hR0 : 0 ≤ roomFor l f i t := by unfold roomFor first room topInt; split <;> split <;> omega
  have hR1 : roomFor l f i t ≤ l := by unfold roomFor first room topInt; split <;> split <;> omega
  go_enter Try.func7, Try.ntmps7
  go_wp2
  go_loop [9, 10, 11, 12, 13] (fun c _ _ _ _ => ∃ k : Int, 0 ≤ k ∧ k ≤ roomFor l f i t ∧ c = .int .i64 k) (fun c _ _ _ _ => (l - intOf c).toNat)
  case atStart => exact ⟨0, by omega, hR0, rfl⟩
  case round =>
    obtain ⟨k, hk0, hk, rfl⟩ := hrel
    by_cases hg : Goes l f i t k
    · have hk1 := goes_lt hl hl2 hf hf2 hi ht hk0 hg
      obtain ⟨g1, g2, g3⟩ := hg
      by_cases h2 : f + k < l / 2
      all_goals by_cases h3 : k = 0
      all_goals by_cases h4 : i + k = 0
      all_goals by_cases h5 : t = 0
      all_goals first
        | (exfalso; omega)
        | (have g4 : t ≤ 0 ∨ i + k < t := by omega
           first
             | (have b3 : (k == 0) = true := beq_iff_eq.2 h3; have q3 : k ≤ 0 := by omega)
             | (have b3 : (k == 0) = false := beq_eq_false_iff_ne.2 h3; have q3 : 1 ≤ k := by omega)
           first
             | (have b4 : (i + k == 0) = true := beq_iff_eq.2 h4)
             | (have b4 : (i + k == 0) = false := beq_eq_false_iff_ne.2 h4)
           first
             | (have b5 : (t != 0) = false := bne_eq_false_iff_eq.2 h5)
             | (have b5 : (t != 0) = true := bne_iff_ne.2 h5; have q5 : i + k < t := by omega)
           clear g2 g3 g4 h3 h4 h5
           go_wp2
           go_round
           case rel => exact ⟨k + 1, by omega, hk1, rfl⟩
           case measure => simp [intOf]; omega)
    · have hk1 := stops_eq hl hl2 hf hf2 hi ht hk0 hk hg
      have hk2 : Hid (k = roomFor l f i t) := hk1
      clear hk1
      by_cases h1 : f + k < l
      · unfold Goes at hg
        by_cases h2 : f + k < l / 2
        all_goals by_cases h3 : k = 0
        all_goals by_cases h4 : i + k = 0
        all_goals by_cases h5 : t = 0
        all_goals by_cases h6 : t ≤ i + k
        all_goals first
          | (exfalso; omega)
          | (first
               | (have b3 : (k == 0) = true := beq_iff_eq.2 h3; have q3 : k ≤ 0 := by omega)
               | (have b3 : (k == 0) = false := beq_eq_false_iff_ne.2 h3; have q3 : 1 ≤ k := by omega)
             first
               | (have b4 : (i + k == 0) = true := beq_iff_eq.2 h4)
               | (have b4 : (i + k == 0) = false := beq_eq_false_iff_ne.2 h4)
             first
               | (have b5 : (t != 0) = false := bne_eq_false_iff_eq.2 h5)
               | (have b5 : (t != 0) = true := bne_iff_ne.2 h5)
             clear hg h3 h4 h5
             go_wp2
             go_ret
             exact ⟨ret_int hk2.out, rfl⟩)
      · clear hg
        go_wp2
        go_ret
        exact ⟨ret_int hk2.out, rfl⟩
end Go.Proofs.Qxb6612397a
