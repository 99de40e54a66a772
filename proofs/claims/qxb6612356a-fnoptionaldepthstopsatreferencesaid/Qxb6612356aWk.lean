import Derived.Test.Qxb6612356aRows
import Derived.WalkKit
import Derived.ProofKit
namespace Go.Proofs.Qxb6612356a
open Go.RowKit

theorem bytes7 (a0 : ByteArray) (a1 : Int) (w0 : a0.size ≤ maxLen) (w : World) :
    Calls Try.prog 7 #[.string a0, .int .i64 a1] w fun e w' => e = .returned (.bool (decide (a0.size ≤ 1048576))) ∧ w' = w := by
  unfold maxLen at w0
  by_cases h : a0.size ≤ 1048576
  · go_enter Try.func7, Try.ntmps7
    go_wp2
    go_ret
    exact ⟨by rw [decide_eq_true h]; rfl, rfl⟩
  · go_enter Try.func7, Try.ntmps7
    go_wp2
    go_ret
    exact ⟨by rw [decide_eq_false h]; rfl, rfl⟩

theorem bytes11 (a0 : ByteArray) (a1 : Bool) (a2 a3 : Int) (w0 : a0.size ≤ maxLen) (w : World) :
    Calls Try.prog 11 #[.string a0, .bool a1, .int .i64 a2, .int .i64 a3] w fun e w' => e = .returned (.bool (decide (a0.size ≤ 1048576))) ∧ w' = w := by
  unfold maxLen at w0
  by_cases h : a0.size ≤ 1048576
  · go_enter Try.func11, Try.ntmps11
    go_wp2
    go_ret
    exact ⟨by rw [decide_eq_true h]; rfl, rfl⟩
  · go_enter Try.func11, Try.ntmps11
    go_wp2
    go_ret
    exact ⟨by rw [decide_eq_false h]; rfl, rfl⟩

theorem newBasic9 (a0 : ByteArray) (w : World) :
    Calls Try.prog 9 #[.string a0] w fun e w' => e = .returned (.iface 41 (.pointer (some ⟨w.heap.size, 0, none⟩))) ∧ w' = w.alloc (.cells #[.string a0] 43) := by
  go_enter Try.func9, Try.ntmps9
  go_wp2
  go_ret
  exact ⟨rfl, rfl⟩

/-- u is v wrapped n times. -/
def Nested (w : World) (v : Value) : Nat → Value → Prop
  | 0, u => u = v
  | n + 1, u => ∃ (b : Nat) (u' : Value), u = .iface 38 (.pointer (some ⟨b, 0, none⟩)) ∧ w.cell? ⟨b, 0, none⟩ = some u' ∧ Nested w v n u'

theorem cell_lt {w : World} {b o : Nat} {v : Value} (h : w.cell? ⟨b, o, none⟩ = some v) : b < w.heap.size := by
  rcases Nat.lt_or_ge b w.heap.size with hl | hl
  · exact hl
  · have e : w.heap[b]? = none := by simp [hl]
    simp [World.cell?, e] at h

theorem grown_cell {w w' : World} (hg : Grown w w') {b o : Nat} {v : Value} (h : w.cell? ⟨b, o, none⟩ = some v) : w'.cell? ⟨b, o, none⟩ = some v := by
  rw [hg.1.cell (cell_lt h) (fun f => f)]; exact h

theorem Nested.grown {w w' : World} (hg : Grown w w') {v : Value} : ∀ {n : Nat} {u : Value}, Nested w v n u → Nested w' v n u
  | 0, _, h => h
  | _ + 1, _, ⟨b, u', e, hc, hn⟩ => ⟨b, u', e, grown_cell hg hc, Nested.grown hg hn⟩

theorem grown_trans {a b c : World} (h : Grown a b) (k : Grown b c) : Grown a c :=
  ⟨World.keptBut_trans h.1 (by
    refine World.keptBut_mono (fun _ f => ?_) k.1
    exact f.elim), fun x => (k.2.1 x).trans (h.2.1 x), Nat.le_trans h.2.2 k.2.2⟩

theorem Nested.wrap {w : World} {v u : Value} {n : Nat} (h : Nested w v n u) :
    Nested (w.alloc (.cells #[u] 40)) v (n + 1) (.iface 38 (.pointer (some ⟨w.heap.size, 0, none⟩))) :=
  ⟨w.heap.size, u, rfl, by simp [go_sem], h.grown ((Grown.refl w).alloc _ _)⟩

theorem assertYes (x : Value) (w : World) : (Instr.typeAssert (.iface 38 x) 24 38 true).run Try.prog w = .ok (.tuple #[x, .bool true]) w := by kernel_rfl
theorem assertNo41 (x : Value) (w : World) : (Instr.typeAssert (.iface 41 x) 24 38 true).run Try.prog w = .ok (.tuple #[.pointer none, .bool false]) w := by kernel_rfl
theorem assertNo29 (x : Value) (w : World) : (Instr.typeAssert (.iface 29 x) 24 38 true).run Try.prog w = .ok (.tuple #[.pointer none, .bool false]) w := by kernel_rfl

end Go.Proofs.Qxb6612356a
