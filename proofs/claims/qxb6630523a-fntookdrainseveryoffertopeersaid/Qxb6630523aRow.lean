/-
  Seat b6630523a. THE ROW: Rows.FnTookDrainsEveryOfferToPeerSaid, PROVED.
-/
import Derived.Test.Qxb6630523aLaw
import Derived.ProofKit
import Derived.Deep.Slices
import Derived.Deep.Grids
import Derived.OpenShut
namespace Go.Proofs.Qxb6630523a
open Go.ChangeShapes Go.WideShapes Go.ChangeAt Go.RowKit

theorem own : ownKnob Try.prog.godebug = none := by kernel_rfl
theorem laidOut : laidOutB Try.prog = true := by kernel_rfl
theorem cells3 : Try.prog.cellsOf 3 = 1 := by kernel_rfl
theorem cells4 : Try.prog.cellsOf 4 = 1 := by kernel_rfl
theorem cells5 : Try.prog.cellsOf 5 = 1 := by kernel_rfl

theorem row_of {W : World} {a : Addr} {n : Nat} {V : Nat → Value} (h : ∀ i, i < n → W.cell? (a.add i) = some (V i)) : Row W (some a) n V := fun hn => by
  have c0 := h 0 hn
  obtain ⟨b, o, sp⟩ := a
  have hspot : sp = none := by simpa [Addr.add] using World.cell?_spot c0
  subst hspot
  refine ⟨b, o, rfl, by simpa [Addr.add] using World.block_lt_of_cell? W _ c0, fun i hi => ?_⟩
  have := h i hi
  rwa [Addr.add_mid] at this

theorem ints_of {H : Type} {enc : TypeId × Value → H} {W : World} {t e : TypeId} {k : IntKind} (ht : Try.prog.underlying t = some (.slice e)) (he : Try.prog.underlying e = some (.int k)) (hc : Try.prog.cellsOf e = 1) {a : Option Addr} {len cap : Nat} {d : DataW H} {ps : List MemPlace}
    (h : DataW.Trod enc Try.prog W 0 (fun _ => true) true t (.slice a len cap) d ps) : ∃ F : Nat → Int, Row W a len (fun i => .int k (F i)) := by
  obtain ⟨fuel, hf⟩ := h
  rcases open_ints ht he hc hf with ⟨hcs, _⟩ | ⟨x, l, c, zs, hcs, _, hl, hm, hz, _, hcell, _⟩
  · simp [Value.cells] at hcs
    obtain ⟨rfl, rfl, rfl⟩ := hcs
    exact ⟨fun _ => 0, fun h => absurd h (by omega)⟩
  · simp [Value.cells] at hcs
    obtain ⟨rfl, rfl, rfl⟩ := hcs
    simp only [if_true] at hz
    exact ⟨fun i => zs.getD i 0, row_of fun i hi => hcell i (by omega)⟩

theorem bools_of {H : Type} {enc : TypeId × Value → H} {W : World} {t e : TypeId} (ht : Try.prog.underlying t = some (.slice e)) (he : Try.prog.underlying e = some .bool) (hc : Try.prog.cellsOf e = 1) {a : Option Addr} {len cap : Nat} {d : DataW H} {ps : List MemPlace}
    (h : DataW.Trod enc Try.prog W 0 (fun _ => true) true t (.slice a len cap) d ps) : ∃ F : Nat → Bool, Row W a len (fun i => .bool (F i)) := by
  obtain ⟨fuel, hf⟩ := h
  rcases Deep.open_bools ht he hc hf with ⟨hcs, _⟩ | ⟨x, l, c, B, hcs, _, hl, hm, _, hcell⟩
  · simp [Value.cells] at hcs
    obtain ⟨rfl, rfl, rfl⟩ := hcs
    exact ⟨fun _ => false, fun h => absurd h (by omega)⟩
  · simp [Value.cells] at hcs
    obtain ⟨rfl, rfl, rfl⟩ := hcs
    exact ⟨B, row_of fun i hi => hcell i (by omega)⟩

set_option maxRecDepth 100000 in
theorem took_lifted (os : Os) (started : os.Started) (H : Type) (enc : TypeId × Value → H) :
    ReturnsInHanded {} Try.checked os 3 .any (Rows.fnTookDrainsEveryOfferToPeerSpec.pre6 enc Try.prog Try.f3 Rows.fnTookDrainsEveryOfferToPeerRow.domain false) (Rows.fnTookDrainsEveryOfferToPeerSpec.post enc Try.prog Try.f3 false true false false) := by
  refine returnsInHanded_of_change (C := Try.checked) own started (by kernel_rfl) Try.func3
    (ChangeSpec.witness6 (enc := enc) (C := Try.checked) false ⟨#[], #[.slice none 0 0, .slice none 0 0, .slice none 0 0, .slice none 0 0, .slice none 0 0, .int .i64 0, .int .i64 0, .int .i64 0, .int .i64 0], []⟩ 8 (by kernel_rfl) (by kernel_rfl) (by kernel_rfl) (by kernel_rfl)) ?_
  intro W base args ds gs before hval0 hW hcnd _
  have hval : ∀ (j : Nat) t v, Try.f3.params[j]? = some t → args[j]? = some v → Value.okWide Try.prog W .any base t v := hval0
  have hW' := hW
  obtain ⟨p, q, hA0, hV, rfl, hfz, hnd⟩ := hW
  have hA : DataW.TrodAll enc Try.prog W 0 (fun _ => true) true Try.f3.params.toList args.toList ds p := hA0
  rw [Try.params3] at hA hval
  obtain ⟨v0, vs0, d0, ds0, p0, q0, hargs, rfl, rfl, h0, t0⟩ := trodAll_cons hA
  obtain ⟨v1, vs1, d1, ds1, p1, q1, rfl, rfl, rfl, h1, t1⟩ := trodAll_cons t0
  obtain ⟨v2, vs2, d2, ds2, p2, q2, rfl, rfl, rfl, h2, t2⟩ := trodAll_cons t1
  obtain ⟨v3, vs3, d3, ds3, p3, q3, rfl, rfl, rfl, h3, t3⟩ := trodAll_cons t2
  obtain ⟨v4, vs4, d4, ds4, p4, q4, rfl, rfl, rfl, h4, t4⟩ := trodAll_cons t3
  obtain ⟨v5, vs5, d5, ds5, p5, q5, rfl, rfl, rfl, h5, t5⟩ := trodAll_cons t4
  obtain ⟨v6, vs6, d6, ds6, p6, q6, rfl, rfl, rfl, h6, t6⟩ := trodAll_cons t5
  obtain ⟨v7, vs7, d7, ds7, p7, q7, rfl, rfl, rfl, h7, t7⟩ := trodAll_cons t6
  obtain ⟨v8, vs8, d8, ds8, p8, q8, rfl, rfl, rfl, h8, t8⟩ := trodAll_cons t7
  obtain ⟨rfl, rfl, rfl⟩ := trodAll_nil t8
  obtain rfl : args = #[v0, v1, v2, v3, v4, v5, v6, v7, v8] := by cases args; simp_all
  obtain ⟨rfl, rfl⟩ := trodVars_none hV
  obtain ⟨a0, n0, k0, rfl⟩ := okWide_slice Try.underlying22 (hval 0 22 v0 rfl rfl)
  obtain ⟨a1, n1, k1, rfl⟩ := okWide_slice Try.underlying23 (hval 1 23 v1 rfl rfl)
  obtain ⟨a2, n2, k2, rfl⟩ := okWide_slice Try.underlying24 (hval 2 24 v2 rfl rfl)
  obtain ⟨a3, n3, k3, rfl⟩ := okWide_slice Try.underlying22 (hval 3 22 v3 rfl rfl)
  obtain ⟨a4, n4, k4, rfl⟩ := okWide_slice Try.underlying24 (hval 4 24 v4 rfl rfl)
  obtain ⟨delay, rfl, rfl, rfl, z5⟩ := open_int Try.underlying3 (hval 5 3 v5 rfl rfl) h5
  obtain ⟨start, rfl, rfl, rfl, z6⟩ := open_int Try.underlying3 (hval 6 3 v6 rfl rfl) h6
  obtain ⟨last, rfl, rfl, rfl, z7⟩ := open_int Try.underlying3 (hval 7 3 v7 rfl rfl) h7
  obtain ⟨i, rfl, rfl, rfl, z8⟩ := open_int Try.underlying3 (hval 8 3 v8 rfl rfl) h8
  have lt0 : ∀ x ∈ p0, x.block < W.heap.size := by obtain ⟨m, hm⟩ := h0; exact DataW.trod_lt m _ _ _ hm
  have lt1 : ∀ x ∈ p1, x.block < W.heap.size := by obtain ⟨m, hm⟩ := h1; exact DataW.trod_lt m _ _ _ hm
  have lt2 : ∀ x ∈ p2, x.block < W.heap.size := by obtain ⟨m, hm⟩ := h2; exact DataW.trod_lt m _ _ _ hm
  have lt3 : ∀ x ∈ p3, x.block < W.heap.size := by obtain ⟨m, hm⟩ := h3; exact DataW.trod_lt m _ _ _ hm
  have lt4 : ∀ x ∈ p4, x.block < W.heap.size := by obtain ⟨m, hm⟩ := h4; exact DataW.trod_lt m _ _ _ hm
  obtain ⟨rt, r0⟩ := bools_of Try.underlying22 Try.underlying4 cells4 h0
  obtain ⟨P, r1⟩ := ints_of Try.underlying23 Try.underlying5 cells5 h1
  obtain ⟨pe, r2⟩ := ints_of Try.underlying24 Try.underlying3 cells3 h2
  obtain ⟨ag, r3⟩ := bools_of Try.underlying22 Try.underlying4 cells4 h3
  obtain ⟨of, r4⟩ := ints_of Try.underlying24 Try.underlying3 cells3 h4
  clear hA0 hval0
  refine (law_any a0 a1 a2 a3 a4 n0 n1 n2 n3 n4 k0 k1 k2 k3 k4 delay start last i rt ag P pe of W ⟨r0, r1, r2, r3⟩ r4).mono fun e W' ⟨he, bel⟩ => ?_
  subst he
  exact ⟨_, rfl, _, _, _, [], _, [], hW', trodAll_mk1 (shut_bool Try.underlying4 _), (trodAll_cons_mk (Below.trod laidOut (by kernel_rfl) (of_decide_eq_true (by kernel_rfl)) h0 bel lt0) (trodAll_cons_mk (Below.trod laidOut (by kernel_rfl) (of_decide_eq_true (by kernel_rfl)) h1 bel lt1) (trodAll_cons_mk (Below.trod laidOut (by kernel_rfl) (of_decide_eq_true (by kernel_rfl)) h2 bel lt2) (trodAll_cons_mk (Below.trod laidOut (by kernel_rfl) (of_decide_eq_true (by kernel_rfl)) h3 bel lt3) (trodAll_cons_mk (Below.trod laidOut (by kernel_rfl) (of_decide_eq_true (by kernel_rfl)) h4 bel lt4) (trodAll_cons_mk (shut_int Try.underlying3 z5) (trodAll_cons_mk (shut_int Try.underlying3 z6) (trodAll_cons_mk (shut_int Try.underlying3 z7) (trodAll_cons_mk (shut_int Try.underlying3 z8) trodAll_mk0))))))))), rfl, bel.frame _, fun h => by cases h⟩

/-- ████ THE STATEMENT ████ -/
theorem took_holds : Rows.FnTookDrainsEveryOfferToPeerSaid :=
  OpenClaim.holds_of_wide 3 Try.f3 rfl rfl rfl rfl rfl rfl rfl ⟨rfl, rfl, rfl, rfl, rfl⟩ rfl rfl rfl rfl rfl (by kernel_rfl) Try.func3 (by kernel_rfl)
    (of_decide_eq_true (by kernel_rfl)) (by unfold Func.isWrapper; first | (rw [if_pos (by decide +kernel)]; kernel_rfl) | (rw [if_neg (by decide +kernel)]; exact ⟨rfl, rfl⟩))
    (fun os started H enc _ => took_lifted os started H enc)
#print axioms took_holds
end Go.Proofs.Qxb6630523a
