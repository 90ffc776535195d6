/-
  Seat b6629285a. THE ROW: Rows.FnWindowAddMatchesBruteForceSaid, PROVED.
-/
import Derived.Test.Qxb6629285aBrute
import Derived.ProofKit
import Derived.Deep.SlicePairs
namespace Go.Proofs.Qxb6629285a
open Go.ChangeShapes Go.WideShapes Go.ChangeAt Go.RowKit

theorem own : ownKnob Try.prog.godebug = none := by kernel_rfl
theorem laidOut : laidOutB Try.prog = true := by kernel_rfl
theorem cells26 : Try.prog.cellsOf 26 = 2 := by kernel_rfl
theorem cells22 : Try.prog.cellsOf 22 = 1 := by kernel_rfl
theorem cells2 : Try.prog.cellsOf 2 = 1 := by kernel_rfl

/-- The script, out of the argument's reading. -/
theorem script_of {H : Type} {enc : TypeId × Value → H} {W : World} {a : Option Addr} {len cap : Nat} {d : DataW H} {ps : List MemPlace}
    (h : DataW.Trod enc Try.prog W 0 (fun _ => true) true 23 (.slice a len cap) d ps) :
    ∃ At Ct : Nat → Int, (0 < len → ∃ sb so, a = some ⟨sb, so, none⟩ ∧ sb < W.heap.size ∧ (∀ i, i < len → W.cell? ⟨sb, so + i * 2, none⟩ = some (.int .i64 (At i))) ∧ (∀ i, i < len → W.cell? ⟨sb, so + i * 2 + 1, none⟩ = some (.int .i64 (Ct i)))) ∧
      (∀ i, i < len → -9223372036854775808 ≤ Ct i ∧ Ct i ≤ 9223372036854775807) ∧ len ≤ 9223372036854775807 := by
  obtain ⟨fuel, hf⟩ := h
  rcases Deep.open_slice_pairs Try.underlying23 Try.underlying26 cells26 rfl rfl cells22 cells2 hf with ⟨hcs, _⟩ | ⟨x, l, c, m, n, V0, V1, D0, D1, P0, P1, hcs, _, hl, hm, hmm, _, hcell⟩
  · simp [Value.cells] at hcs
    obtain ⟨rfl, rfl, rfl⟩ := hcs
    exact ⟨fun _ => 0, fun _ => 0, fun h => absurd h (by omega), fun i h => absurd h (by omega), by omega⟩
  · simp [Value.cells] at hcs
    obtain ⟨rfl, rfl, rfl⟩ := hcs
    have hlm : len ≤ m := by rw [hmm]; split <;> omega
    have ev : ∀ i, i < len → ∃ q : Int × Int, V0 i = .int .i64 q.1 ∧ V1 i = .int .i64 q.2 ∧ (Lit.int .i64 q.2).wf = true := by
      intro i hi
      obtain ⟨_, _, h3, h4⟩ := hcell i (by omega)
      obtain ⟨z0, e0, _, _⟩ := DataW.trod_int Try.underlying22 h3
      obtain ⟨z1, e1, _, w1⟩ := DataW.trod_int Try.underlying2 h4
      exact ⟨(z0, z1), by simpa using e0, by simpa using e1, w1⟩
    obtain ⟨q, hq⟩ := Deep.choose_lt ev
    refine ⟨fun i => (q i).1, fun i => (q i).2, fun h0 => ?_, fun i hi => ?_, by unfold maxLen at hm; omega⟩
    · obtain ⟨sb, so, sp⟩ := x
      have hspot : sp = none := by simpa [Addr.add] using World.cell?_spot (hcell 0 (by omega)).1
      subst hspot
      refine ⟨sb, so, rfl, ?_, fun i hi => ?_, fun i hi => ?_⟩
      · simpa [Addr.add] using World.block_lt_of_cell? W _ (hcell 0 (by omega)).1
      · have := (hcell i (by omega)).1
        rw [Addr.add_mid, (hq i hi).1] at this
        exact this
      · have := (hcell i (by omega)).2.1
        rw [Addr.add_mid, (hq i hi).2.1, ← Nat.add_assoc] at this
        exact this
    · have := (hq i hi).2.2
      simp [Lit.wf, IntKind.min, IntKind.max, IntKind.signed, IntKind.bits] at this
      exact this

set_option maxRecDepth 100000 in
theorem bf_lifted (os : Os) (started : os.Started) (H : Type) (enc : TypeId × Value → H) :
    ReturnsInHanded {} Try.checked os 3 .any (Rows.fnWindowAddMatchesBruteForceSpec.pre6 enc Try.prog Try.f3 Rows.fnWindowAddMatchesBruteForceRow.domain false) (Rows.fnWindowAddMatchesBruteForceSpec.post enc Try.prog Try.f3 false true false false) := by
  refine returnsInHanded_of_change (C := Try.checked) own started (by kernel_rfl) Try.func3
    (ChangeSpec.witness6 (enc := enc) (C := Try.checked) false ⟨#[], #[.int .i64 0, .bool false, .slice none 0 0], []⟩ 8 (by kernel_rfl) (by kernel_rfl) (by kernel_rfl) (by kernel_rfl)) ?_
  intro W base args ds gs before hval0 hW hcnd _
  have hval : ∀ (j : Nat) t v, Try.f3.params[j]? = some t → args[j]? = some v → Value.okWide Try.prog W .any base t v := hval0
  have hW' := hW
  obtain ⟨p, q, hA0, hV, rfl, hfz, hnd⟩ := hW
  have hA : DataW.TrodAll enc Try.prog W 0 (fun _ => true) true Try.f3.params.toList args.toList ds p := hA0
  rw [Try.params3] at hA hval
  obtain ⟨v0, v1, v2, d0, d1, d2, p0, p1, p2, rfl, rfl, rfl, h0, h1, h2⟩ := trodAll_three hA
  obtain ⟨rfl, rfl⟩ := trodVars_none hV
  obtain ⟨len, rfl, rfl, rfl, w0⟩ := open_int Try.underlying22 (hval 0 22 v0 rfl rfl) h0
  obtain ⟨lg, rfl, rfl, rfl⟩ := open_bool Try.underlying4 (hval 1 4 v1 rfl rfl) h1
  obtain ⟨a2, len2, cap2, rfl⟩ := okWide_slice Try.underlying23 (hval 2 23 v2 rfl rfl)
  have k2 := h2
  have lt2 : ∀ x ∈ p2, x.block < W.heap.size := by obtain ⟨m, hm⟩ := k2; exact DataW.trod_lt m _ _ _ hm
  obtain ⟨At, Ct, hao, _, hN⟩ := script_of h2
  clear hA0 hval0
  refine (bf_any len lg a2 len2 cap2 At Ct W hao hN).mono fun e W' ⟨he, bel⟩ => ?_
  subst he
  exact ⟨_, rfl, _, _, _, [], _, [], hW', trodAll_mk1 (shut_bool Try.underlying4 _), trodAll_mk3 (shut_int Try.underlying22 w0) (shut_bool Try.underlying4 lg) (Below.trod laidOut (by kernel_rfl) (of_decide_eq_true (by kernel_rfl)) k2 bel lt2), rfl, bel.frame _, fun h => by cases h⟩

/-- ████ THE STATEMENT ████ -/
theorem bf_holds : Rows.FnWindowAddMatchesBruteForceSaid :=
  OpenClaim.holds_of_wide 3 Try.f3 rfl rfl rfl rfl rfl rfl rfl ⟨rfl, rfl, rfl, rfl, rfl⟩ rfl rfl rfl rfl rfl (by kernel_rfl) Try.func3 (by kernel_rfl)
    (of_decide_eq_true (by kernel_rfl)) (by unfold Func.isWrapper; first | (rw [if_pos (by decide +kernel)]; kernel_rfl) | (rw [if_neg (by decide +kernel)]; exact ⟨rfl, rfl⟩))
    (fun os started H enc _ => bf_lifted os started H enc)
#print axioms bf_holds
end Go.Proofs.Qxb6629285a
