/- The law FnGuardPassedTellsExactlyTheBlocksPassed: the row over the walk, then the tied card by the kit's builder. -/
import Derived.Test.Qxb6612592aDoorLaw3
import Derived.Test.Qxb6612592aDoorLaid
import Derived.Test.Qxb6612592aDoorTie
import Derived.Test.Qxb6612592aDoorCards
import Derived.SevenTiedAt
import Derived.ChangeOld
import Derived.ChangeSlices
namespace Go.Proofs.Qxb6612592aDoor
open Go.ChangeShapes Go.WideShapes Go.ChangeAt Go.WideMaps Go.WideElems Go.RowKit

theorem laidOut : laidOutB Tryd.prog = true := by kernel_rfl

/-- A slice of integers that came in, as the kit opens it, gives the walk's 'Row'. -/
theorem row_of {w : World} {x : Addr} {len cap : Nat} {zs : List Int} (hl : len ≤ cap) (hz : zs.length = cap)
    (hcell : ∀ i, i < zs.length → w.cell? (x.add i) = some (.int .u64 (zs.getD i 0))) (hw : ∀ n ∈ zs, (Lit.int .u64 n).wf = true) : Row w (some x) len (fun i => zs.getD i 0) := by
  intro i hi
  have hi' : i < zs.length := by omega
  have h0 := hcell 0 (by omega)
  have e0 : x.add 0 = x := rfl
  rw [e0] at h0
  obtain ⟨_, _, hsh, _, hsp⟩ := World.shape?_of_cell? h0
  obtain ⟨b, off, sp⟩ := x
  obtain rfl : sp = none := hsp
  have hb : b < w.heap.size := by
    rcases Nat.lt_or_ge b w.heap.size with h | h
    · exact h
    · have e : w.heap[b]? = none := by simp [h]
      simp [World.cell?, e] at h0
  have hc := hcell i hi'
  have ea : (⟨b, off, none⟩ : Addr).add i = ⟨b, off + i, none⟩ := by
    unfold Addr.add; split
    · next h => subst h; rfl
    · rfl
  rw [ea] at hc
  refine ⟨b, off, rfl, hb, hc, ?_⟩
  have hm : zs.getD i 0 ∈ zs := by
    rw [List.getD_eq_getElem?_getD, List.getElem?_eq_getElem hi', Option.getD_some]; exact List.getElem_mem hi'
  exact (u64_range (hw _ hm)).1

set_option maxRecDepth 100000 in
theorem lifted3 (os : Os) (started : os.Started) (H : Type) (enc : TypeId × Value → H) :
    ReturnsInHanded {} Tryd.checked os 3 .any (fun w args => (Rows.fnGuardPassedTellsExactlyTheBlocksPassedSpec.pre enc Tryd.prog Tryd.f3 [] false w args ∧ laidMetH Tryd.prog laid1 w) ∧ sizedMet enc Tryd.prog Tryd.f3 (OpenSpec.ofChange Rows.fnGuardPassedTellsExactlyTheBlocksPassedSpec) false w args)
      (Rows.fnGuardPassedTellsExactlyTheBlocksPassedSpec.post enc Tryd.prog Tryd.f3 false true false false) := by
  refine returnsInHanded_of_change_and (C := Tryd.checked) (X := fun w _ => laidMetH Tryd.prog laid1 w) (fun _ _ _ hh h => h.of_heap hh) own started (by kernel_rfl) Tryd.func3
    (ChangeSpec.witness_shaped (enc := enc) (C := Tryd.checked) (os := os) (X := fun w _ => laidMetH Tryd.prog laid1 w) false (World.doorLaid Tryd.prog 400 os) #[.int .u64 0, .int .u64 0, .slice none 0 0, .int .u64 0] 8 rfl (World.shaped_of_RefB (by kernel_rfl) (by kernel_rfl)) (by kernel_rfl) (by kernel_rfl) (by kernel_rfl) (door_met os _)) ?_
  intro W base args ds gs before hval0 hW _ _ hL _
  have hval : ∀ (j : Nat) t v, Tryd.f3.params[j]? = some t → args[j]? = some v → Value.okWide Tryd.prog W .any base t v := hval0
  have hW' := hW
  obtain ⟨p, q, hA0, hV, rfl, hfz, hnd⟩ := hW
  have hA : DataW.TrodAll enc Tryd.prog W 0 (fun _ => true) true Tryd.f3.params.toList args.toList ds p := hA0
  rw [Tryd.params3] at hA hval
  obtain ⟨v0, vs0, d0, ds0, p0, q0, hargs, rfl, rfl, h0, r0⟩ := trodAll_cons hA
  obtain ⟨v1, vs1, d1, ds1, p1, q1, rfl, rfl, rfl, h1, r1⟩ := trodAll_cons r0
  obtain ⟨v2, vs2, d2, ds2, p2, q2, rfl, rfl, rfl, h2, r2⟩ := trodAll_cons r1
  obtain ⟨v3, vs3, d3, ds3, p3, q3, rfl, rfl, rfl, h3, r3⟩ := trodAll_cons r2
  obtain ⟨rfl, rfl, rfl⟩ := trodAll_nil r3
  obtain rfl : args = #[v0, v1, v2, v3] := by cases args; simp_all
  obtain ⟨rfl, rfl⟩ := trodVars_none hV
  obtain ⟨a0, rfl, rfl, rfl, w0⟩ := open_int Tryd.underlying22 (hval 0 22 v0 rfl rfl) h0
  obtain ⟨a1, rfl, rfl, rfl, w1⟩ := open_int Tryd.underlying22 (hval 1 22 v1 rfl rfl) h1
  obtain ⟨a2, len2, cap2, rfl⟩ := okWide_slice Tryd.underlying23 (hval 2 23 v2 rfl rfl)
  have k2 := h2
  have lt2 : ∀ x ∈ p2, x.block < W.heap.size := by obtain ⟨m, hm⟩ := k2; exact DataW.trod_lt m _ _ _ hm
  obtain ⟨z2, hlen, w2⟩ : ∃ zs, len2 ≤ maxLen ∧ Row W a2 len2 zs := by
    obtain ⟨fuel, hf⟩ := h2
    rcases open_ints Tryd.underlying23 Tryd.underlying22 (by kernel_rfl) hf with ⟨hcs, _⟩ | ⟨x, l, c, zs, hcs, _, hl, hm, hz, _, hcell, hwz⟩
    · simp [Value.cells] at hcs
      obtain ⟨rfl, rfl, rfl⟩ := hcs
      exact ⟨fun _ => 0, Nat.zero_le _, fun i hi => absurd hi (Nat.not_lt_zero _)⟩
    · simp [Value.cells] at hcs
      obtain ⟨rfl, rfl, rfl⟩ := hcs
      exact ⟨_, Nat.le_trans hl hm, row_of hl (by simpa using hz) hcell hwz⟩
  obtain ⟨a3, rfl, rfl, rfl, w3⟩ := open_int Tryd.underlying22 (hval 3 22 v3 rfl rfl) h3
  have T := of_laid hL
  clear hA0 hval0
  refine (walk3 a0 a1 a3 a2 len2 cap2 z2 W w0 w1 w3 hlen w2 T).mono fun e W' ⟨he, bel⟩ => ?_
  subst he
  exact ⟨_, rfl, _, _, _, [], _, [], hW', trodAll_mk1 (shut_bool Tryd.underlying4 _), (trodAll_cons_mk (shut_int Tryd.underlying22 w0) (trodAll_cons_mk (shut_int Tryd.underlying22 w1) (trodAll_cons_mk (Below.trod laidOut (by kernel_rfl) (of_decide_eq_true (by kernel_rfl)) k2 bel lt2) (trodAll_cons_mk (shut_int Tryd.underlying22 w3) trodAll_mk0)))), rfl, bel.frame _, fun h => by cases h⟩

theorem row3_holds : Rows.FnGuardPassedTellsExactlyTheBlocksPassedSaid :=
  OpenClaim.holds_of_wide 3 Tryd.f3 rfl rfl rfl rfl rfl rfl rfl ⟨rfl, rfl, rfl, rfl, rfl⟩ rfl rfl rfl rfl rfl (by kernel_rfl) Tryd.func3 (by kernel_rfl)
    (of_decide_eq_true (by kernel_rfl)) (by unfold Func.isWrapper; first | (rw [if_pos (by decide +kernel)]; kernel_rfl) | (rw [if_neg (by decide +kernel)]; exact ⟨rfl, rfl⟩))
    (fun os started H enc _ => lifted3 os started H enc)

/-- ████ THE STATEMENT: the tied card ████ -/
theorem card3_proved : Rows.FnGuardPassedTellsExactlyTheBlocksPassedCardSaid :=
  Claim7.holds_tied_plain_at .later [] [.data] true Rows.fnGuardPassedTellsExactlyTheBlocksPassedCard.stood.harness false
    row3_holds (fun _ h => by cases h) (by kernel_rfl) (fun _ h => by cases h) fnGuardPassedTellsExactlyTheBlocksPassed_row_tie rfl ⟨rfl, rfl⟩ (by kernel_rfl) rfl
    (fun f fn hf hfn => by
      obtain rfl : f = 3 := Option.some.inj ((show Tryd.prog.funcNamed Rows.fnGuardPassedTellsExactlyTheBlocksPassedRow.func = some 3 by kernel_rfl).symm.trans hf) |>.symm
      obtain rfl : fn = Tryd.f3 := (Option.some.inj (Tryd.func3.symm.trans hfn)).symm
      exact ⟨by kernel_rfl, fun j t ht => by
        rw [Tryd.params3] at ht
        have hm : t ∈ [22, 22, 23, 22] := by simpa using Array.mem_of_getElem? ht
        have hall : ([22, 22, 23, 22].all fun u => !Tryd.prog.wantsStandIn u) = true := by kernel_rfl
        exact (show Tryd.prog.wantsStandIn t = false by simpa using List.all_eq_true.1 hall t hm)⟩)
    (by kernel_rfl)
end Go.Proofs.Qxb6612592aDoor
