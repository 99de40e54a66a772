import Derived.Test.Qxb6612356aWk
namespace Go.Proofs.Qxb6612356a
open Go.RowKit

theorem Nested.shape {w : World} {tv : TypeId} {xv : Value} : ∀ {n : Nat} {u : Value}, Nested w (.iface tv xv) n u → ∃ t x, u = .iface t x
  | 0, _, h => ⟨tv, xv, h⟩
  | _ + 1, _, ⟨_, _, e, _, _⟩ => ⟨38, _, e⟩

set_option maxHeartbeats 400000 in
theorem nest8 (tv : TypeId) (xv : Value) (d : Int) (h0 : 0 ≤ d) (h1 : d ≤ 65536) (w : World) :
    Calls Try.prog 8 #[.iface tv xv, .int .i64 d] w fun e w' => ∃ u, e = .returned u ∧ Grown w w' ∧ Nested w' (.iface tv xv) d.toNat u := by
  go_enter Try.func8, Try.ntmps8
  go_wp2
  go_loopw [0, 5] (fun t i w1 => ∃ k : Nat, (k : Int) ≤ d ∧ i = .int .i64 k ∧ Grown w w1 ∧ Nested w1 (.iface tv xv) k t) (fun _ i _ => (d - intOf i).toNat)
  case atStart => exact ⟨0, h0, rfl, Grown.refl _, rfl⟩
  case round =>
    obtain ⟨k, hk, rfl, hg, hn⟩ := hrel
    obtain ⟨t, x, rfl⟩ := hn.shape
    by_cases hlt : (k : Int) < d
    · go_wp2
      go_roundw
      case rel => exact ⟨k + 1, by omega, by go_num, hg.alloc _ _, hn.wrap⟩
      case measure => simp [intOf]; omega
    · go_wp2
      go_ret
      refine ⟨_, rfl, hg, ?_⟩
      have : d.toNat = k := by omega
      rw [this]; exact hn

/-- What 'o, ok := x.(*Optional)' gives at an x that is v wrapped m times. -/
def Open (w : World) (v : Value) : Nat → Value → Value → Prop
  | 0, o, ok => o = .pointer none ∧ ok = .bool false
  | m + 1, o, ok => ∃ (b : Nat) (u' : Value), o = .pointer (some ⟨b, 0, none⟩) ∧ ok = .bool true ∧ w.cell? ⟨b, 0, none⟩ = some u' ∧ Nested w v m u'

def NoOpt (v : Value) : Prop := ∀ w, (Instr.typeAssert v 24 38 true).run Try.prog w = .ok (.tuple #[.pointer none, .bool false]) w

/-- One answer of the assertion, whichever it is. -/
theorem Nested.asked {w : World} {v : Value} (hv : NoOpt v) {n : Nat} {u : Value} (h : Nested w v n u) :
    ∃ o ok, (∀ w', (Instr.typeAssert u 24 38 true).run Try.prog w' = .ok (.tuple #[o, ok]) w') ∧ Open w v n o ok := by
  cases n with
  | zero => obtain rfl : u = v := h; exact ⟨_, _, hv, rfl, rfl⟩
  | succ m =>
    obtain ⟨b, u', rfl, hc, hn⟩ := h
    exact ⟨_, _, assertYes _, b, u', rfl, rfl, hc, hn⟩

set_option maxHeartbeats 400000 in
theorem depth10 (v : Value) (hv : NoOpt v) (n : Nat) (hn : n ≤ 65536) (u : Value) (w : World) (H : Nested w v n u) :
    Calls Try.prog 10 #[u] w fun e w' => e = .returned (.int .i64 n) ∧ w' = w := by
  obtain ⟨o, ok, ha, ho⟩ := H.asked hv
  clear H
  go_enter Try.func10, Try.ntmps10
  go_wp2
  go_loop [3, 4, 5] (fun c o ok => ∃ k m : Nat, k + m ≤ n ∧ n ≤ k + m ∧ c = .int .i64 k ∧ Open w v m o ok) (fun c _ _ => n - (intOf c).toNat)
  case atStart => exact ⟨0, n, by omega, by omega, rfl, ho⟩
  case round =>
    clear ha ho
    obtain ⟨k, m, h1, h2, rfl, ho⟩ := hrel
    cases m with
    | zero =>
      obtain ⟨rfl, rfl⟩ := ho
      go_wp2
      go_ret
      exact ⟨by rw [show n = k by omega]; rfl, rfl⟩
    | succ m =>
      obtain ⟨b, u', rfl, rfl, hc, hn'⟩ := ho
      obtain ⟨o', ok', ha, ho⟩ := hn'.asked hv
      clear hn'
      go_wp2
      go_round
      case rel => exact ⟨k + 1, m, by omega, by omega, by go_num, ho⟩
      case measure => simp [intOf]; omega
end Go.Proofs.Qxb6612356a
