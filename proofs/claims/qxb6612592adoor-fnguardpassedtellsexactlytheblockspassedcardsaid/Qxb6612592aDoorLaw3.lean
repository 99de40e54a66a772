import Derived.Test.Qxb6612592aDoorNewB
namespace Go.Proofs.Qxb6612592aDoor
open Go.RowKit

theorem bytes5 (sz ln k : Int) (q : Option Addr) (len cap : Nat) (w : World) (hl : len ≤ maxLen) :
    Calls Tryd.prog 5 #[.int .u64 sz, .int .u64 ln, .slice q len cap, .int .u64 k] w fun e w' => e = .returned (.bool (decide (len ≤ 1048576))) ∧ w' = w := by
  unfold maxLen at hl
  by_cases h : len ≤ 1048576
  · go_enter Tryd.func5, Tryd.ntmps5
    go_wp2
    go_ret
    exact ⟨by rw [decide_eq_true h]; rfl, rfl⟩
  · go_enter Tryd.func5, Tryd.ntmps5
    go_wp2
    go_ret
    exact ⟨by rw [decide_eq_false h]; rfl, rfl⟩

theorem u64_range {a : Int} (h : (Lit.int .u64 a).wf = true) : 0 ≤ a ∧ a < 18446744073709551616 := by
  simp [Lit.wf, IntKind.min, IntKind.max, IntKind.bits, IntKind.signed] at h
  omega

theorem passedIs {w : World} {b p n : Nat} {sz ln : Int} {S : Nat → Bool} (G : Gd w b p n sz ln S) (hn : n ≤ 1024) (k : Int) (h0 : 0 ≤ k) (hk : k < 64 * n) (r : Bool) (hr : S k.toNat = r) :
    Calls Tryd.prog 7 #[.pointer (some ⟨b, 0, none⟩), .int .u64 k] w fun e w' => e = .returned (.bool r) ∧ w' = w := by
  rw [← hr]; exact passed7 G hn k h0 hk

/-- What the walk is told of the slice: each element's cell, and that it lies in old memory. -/
def Row (w : World) (q : Option Addr) (len : Nat) (zs : Nat → Int) : Prop :=
  ∀ i, i < len → ∃ b off, q = some ⟨b, off, none⟩ ∧ b < w.heap.size ∧ w.cell? ⟨b, off + i, none⟩ = some (.int .u64 (zs i)) ∧ 0 ≤ zs i

theorem short3 {sz ln k : Int} {q : Option Addr} {len cap : Nat} {w : World} (h : Calls Tryd.prog 3 #[.int .u64 sz, .int .u64 ln, .slice q len cap, .int .u64 k] w fun e w' => e = .returned (.bool true) ∧ w' = w) :
    Calls Tryd.prog 3 #[.int .u64 sz, .int .u64 ln, .slice q len cap, .int .u64 k] w fun e w' => e = .returned (.bool true) ∧ Below w.heap.size w w' :=
  h.mono (fun _ _ ⟨he, hw⟩ => ⟨he, by rw [hw]; exact Below.refl _ _⟩)

set_option maxHeartbeats 400000 in
theorem walk3 (sz ln k : Int) (q : Option Addr) (len cap : Nat) (zs : Nat → Int) (w : World) (w0 : (Lit.int .u64 sz).wf = true) (w1 : (Lit.int .u64 ln).wf = true) (w3 : (Lit.int .u64 k).wf = true) (hlen : len ≤ maxLen) (R : Row w q len zs) (T : Table w) :
    Calls Tryd.prog 3 #[.int .u64 sz, .int .u64 ln, .slice q len cap, .int .u64 k] w fun e w' => e = .returned (.bool true) ∧ Below w.heap.size w w' := by
  obtain ⟨s0, s1⟩ := u64_range w0
  obtain ⟨l0, l1⟩ := u64_range w1
  obtain ⟨k0, k1⟩ := u64_range w3
  clear w0 w1 w3
  by_cases hL : len ≤ 1048576
  case neg =>
    have hb : decide (len ≤ 1048576) = false := decide_eq_false hL
    refine short3 ?_
    go_enter Tryd.func3, Tryd.ntmps3
    go_wp2_with (go_at_call 5; refine (bytes5 _ _ _ _ _ _ _ hlen).mono ?_; rintro e w' ⟨rfl, rfl⟩)
    go_ret
    exact ⟨rfl, rfl⟩
  have hb5 : decide (len ≤ 1048576) = true := decide_eq_true hL
  by_cases hL2 : 65536 < len
  · refine short3 ?_
    go_enter Tryd.func3, Tryd.ntmps3
    go_wp2_with (go_at_call 5; refine (bytes5 _ _ _ _ _ _ _ hlen).mono ?_; rintro e w' ⟨rfl, rfl⟩)
    go_ret
    exact ⟨rfl, rfl⟩
  have hL3 : len ≤ 65536 := by omega
  clear hL2
  by_cases hz : sz = 0
  · have hb : (sz == 0) = true := beq_iff_eq.2 hz
    clear hz
    refine short3 ?_
    go_enter Tryd.func3, Tryd.ntmps3
    go_wp2_with (go_at_call 5; refine (bytes5 _ _ _ _ _ _ _ hlen).mono ?_; rintro e w' ⟨rfl, rfl⟩)
    go_ret
    exact ⟨rfl, rfl⟩
  have h1 : 1 ≤ sz := by omega
  have hb : (sz == 0) = false := beq_eq_false_iff_ne.2 hz
  clear hz
  by_cases ho : IntKind.u64.wrap (IntKind.u64.wrap (ln + sz) - 1) < ln
  · refine short3 ?_
    go_enter Tryd.func3, Tryd.ntmps3
    go_wp2_with (go_at_call 5; refine (bytes5 _ _ _ _ _ _ _ hlen).mono ?_; rintro e w' ⟨rfl, rfl⟩)
    go_ret
    exact ⟨rfl, rfl⟩
  have hs : ln + sz - 1 < 18446744073709551616 := by
    simp only [IntKind.wrap_u64] at ho; omega
  have ho2 : ln ≤ IntKind.u64.wrap (IntKind.u64.wrap (ln + sz) - 1) := by omega
  obtain ⟨m, hm⟩ : ∃ m, IntKind.u64.wrap (IntKind.u64.wrap (ln + sz) - 1) = m := ⟨_, rfl⟩
  have hm2 : m = ln + sz - 1 := by rw [← hm]; exact wrap_sum ln sz l0 h1 hs
  rw [hm] at ho2
  clear ho
  have m0 : 0 ≤ m := by omega
  have m1 : m < 18446744073709551616 := by omega
  clear hm2
  obtain ⟨B, hB⟩ : ∃ B, m / sz = B := ⟨_, rfl⟩
  by_cases hbig : 65536 < B
  · refine short3 ?_
    go_enter Tryd.func3, Tryd.ntmps3
    go_wp2_with (go_at_call 5; refine (bytes5 _ _ _ _ _ _ _ hlen).mono ?_; rintro e w' ⟨rfl, rfl⟩)
    go_ret
    exact ⟨rfl, rfl⟩
  have B1 : B ≤ 65536 := by omega
  have B0 : 0 ≤ B := by rw [← hB]; exact Int.ediv_nonneg m0 (by omega)
  clear hbig
  by_cases hk : B ≤ k
  · refine short3 ?_
    go_enter Tryd.func3, Tryd.ntmps3
    go_wp2_with (go_at_call 5; refine (bytes5 _ _ _ _ _ _ _ hlen).mono ?_; rintro e w' ⟨rfl, rfl⟩)
    go_ret
    exact ⟨rfl, rfl⟩
  have hkB : k < B := by omega
  clear hk
  obtain ⟨n, hn⟩ : ∃ n : Nat, (B + 63) / 64 = n := ⟨((B + 63) / 64).toNat, by omega⟩
  have n1 : n ≤ 1024 := by omega
  have hBn : B ≤ 64 * n := by omega
  have hk64 : k < 64 * n := by omega
  have C := new6b sz ln m B n w h1 hm m0 m1 hB B0 B1 hn T
  clear hn T
  go_enter Tryd.func3, Tryd.ntmps3
  go_wp2_with (go_at_call 5; refine (bytes5 _ _ _ _ _ _ _ hlen).mono ?_; rintro e w' ⟨rfl, hw⟩; subst hw)
  rw [hB]
  clear hm hB
  go_loop [10] (fun c => ∃ i : Nat, i ≤ len ∧ c = .int .i64 i ∧ ∀ j, j < i → zs j < B) (fun c => len - (intOf c).toNat)
  case atStart => exact ⟨0, Nat.zero_le _, rfl, fun j hj => absurd hj (Nat.not_lt_zero _)⟩
  case round =>
    obtain ⟨i, hi, rfl, hall⟩ := hrel
    by_cases hlt : i < len
    · obtain ⟨b0, off, rfl, hbk, hc, hz0⟩ := R i hlt
      by_cases hv : zs i < B
      · have HA : Hid (∀ j, j < i → zs j < B) := hall
        clear hall
        go_wp2
        go_round
        case rel => exact ⟨i + 1, by omega, by go_num, fun j hj => by
          rcases Nat.lt_succ_iff_lt_or_eq.1 hj with h | h
          · exact HA.out j h
          · rw [h]; exact hv⟩
        case measure => simp [intOf]; omega
      · clear hall
        go_wp2
        go_ret
        exact ⟨rfl, Below.refl _ _⟩
    · have HA : Hid (∀ j, j < len → zs j < B) := fun j hj => hall j (by omega)
      clear hall
      go_wp2_with fail
      refine C.mono ?_
      rintro e w2 ⟨rfl, hb2, G⟩
      clear C
      go_wp2_with fail
      refine (passedIs G n1 k k0 hk64 false rfl).mono ?_
      rintro e w3 ⟨rfl, rfl⟩
      go_wp2_with fail
      go_loopw [12, 13] (fun wt c w1 => ∃ (i : Nat) (S : Nat → Bool), i ≤ len ∧ c = .int .i64 i ∧ wt = .bool (S k.toNat) ∧ Below w'.heap.size w' w1 ∧ Gd w1 (w'.heap.size + 1) w'.heap.size n sz ln S) (fun _ c _ => len - (intOf c).toNat)
      case atStart => exact ⟨0, fun _ => false, Nat.zero_le _, rfl, rfl, hb2, G⟩
      case round =>
        clear hb2 G hi hlt
        obtain ⟨i, S, hi, rfl, rfl, hbw, G1⟩ := hrel
        by_cases hlt : i < len
        · obtain ⟨b0, off, rfl, hbk, hc, hz0⟩ := R i hlt
          have hv := HA.out i hlt
          have hc1 := (hbw.cell (p := ⟨b0, off + i, none⟩) hbk).trans hc
          have hv64 : zs i < 64 * n := by omega
          go_wp2_with fail
          refine (pass8 G1 n1 (zs i) hz0 hv64).mono ?_
          rintro e w4 ⟨rfl, ⟨j, v, hw⟩, G2⟩
          have hb4 : Below w'.heap.size w' w4 := by rw [hw]; exact hbw.setCell (Nat.le_refl _) _
          have hc4 := (hb4.cell (p := ⟨b0, off + i, none⟩) hbk).trans hc
          clear hw hc hc1 G1 hbw
          by_cases he : zs i = k
          · have hbq : (zs i == k) = true := beq_iff_eq.2 he
            have hS : (fun t => S t || decide ((zs i).toNat = t)) k.toNat = true := by simp [he]
            have HS : Hid ((fun t => S t || decide ((zs i).toNat = t)) k.toNat = true) := hS
            clear he hS
            go_wp2_with fail
            refine (passedIs G2 n1 k k0 hk64 true HS.out).mono ?_
            rintro e w5 ⟨rfl, rfl⟩
            go_wp2_with fail
            go_roundw
            case rel => exact ⟨i + 1, _, by omega, by go_num, congrArg Value.bool HS.out.symm, hb4, G2⟩
            case measure => simp [intOf]; omega
          · have hbq : (zs i == k) = false := beq_eq_false_iff_ne.2 he
            have hS : (fun t => S t || decide ((zs i).toNat = t)) k.toNat = S k.toNat := by
              have : ¬ (zs i).toNat = k.toNat := by omega
              simp [this]
            have HS : Hid ((fun t => S t || decide ((zs i).toNat = t)) k.toNat = S k.toNat) := hS
            clear he hS
            go_wp2_with fail
            refine (passedIs G2 n1 k k0 hk64 (S k.toNat) HS.out).mono ?_
            rintro e w5 ⟨rfl, rfl⟩
            go_wp2_with fail
            go_roundw
            case rel => exact ⟨i + 1, _, by omega, by go_num, congrArg Value.bool HS.out.symm, hb4, G2⟩
            case measure => simp [intOf]; omega
        · go_wp2
          go_ret
          exact ⟨rfl, hbw⟩
end Go.Proofs.Qxb6612592aDoor
