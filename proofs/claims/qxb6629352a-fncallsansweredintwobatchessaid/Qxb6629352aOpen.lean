/-
  Seat b6629352a. THE ARGUMENTS OPENED: a slice of blocks, each with a slice of bytes in it.
-/
import Derived.Test.Qxb6629352aLaw1
import Derived.ProofKit
import Derived.Deep.Slices
namespace Go.Proofs.Qxb6629352a
open Go.ChangeShapes Go.WideShapes Go.ChangeAt Go.RowKit

theorem own : ownKnob Try.prog.godebug = none := by kernel_rfl
theorem laidOut : laidOutB Try.prog = true := by kernel_rfl
theorem cells36 : Try.prog.cellsOf 36 = 8 := by kernel_rfl
theorem cells9 : Try.prog.cellsOf 9 = 1 := by kernel_rfl
theorem cells34 : Try.prog.cellsOf 34 = 1 := by kernel_rfl
theorem cells4 : Try.prog.cellsOf 4 = 1 := by kernel_rfl
theorem cells5 : Try.prog.cellsOf 5 = 1 := by kernel_rfl

theorem list8 {α : Type} {l : List α} (h : l.length = 8) : ∃ a b c d e f g i, l = [a, b, c, d, e, f, g, i] := by
  match l, h with
  | [a, b, c, d, e, f, g, i], _ => exact ⟨a, b, c, d, e, f, g, i, rfl⟩

/-- One block, out of its eight cells' reading. -/
theorem blk_of {H : Type} {enc : TypeId × Value → H} {W : World} {fuel : Nat} {cs : List Value} {x : DataW H × List MemPlace} (hl : cs.length = 8) (h : DataW.trod enc Try.prog W 0 (fun _ => true) true fuel 36 cs = some x) :
    ∃ b : Blk, cs = b.cells ∧ b.fits ∧ b.input W := by
  obtain ⟨xs, n, _, _, _, hxl, hf⟩ := DataW.trod_struct Try.underlying36 h
  obtain ⟨v0, v1, v2, v3, v4, v5, v6, v7, rfl⟩ := list8 hl
  have hxl8 : xs.length = 8 := hxl
  obtain ⟨y0, y1, y2, y3, y4, y5, y6, y7, rfl⟩ := list8 hxl8
  have g0 := hf 0 _ rfl
  have g1 := hf 1 _ rfl
  have g2 := hf 2 _ rfl
  have g3 := hf 3 _ rfl
  have g4 := hf 4 _ rfl
  have g5 := hf 5 _ rfl
  have g6 := hf 6 _ rfl
  have g7 := hf 7 _ rfl
  simp [cells9, cells34, cells4] at g0 g1 g2 g3 g4 g5 g6 g7
  obtain ⟨s0, e0, _, z0⟩ := DataW.trod_string Try.underlying9 g0
  obtain ⟨s1, e1, _, z1⟩ := DataW.trod_string Try.underlying9 g1
  obtain ⟨s2, e2, _, z2⟩ := DataW.trod_string Try.underlying9 g2
  obtain ⟨s3, e3, _, z3⟩ := DataW.trod_string Try.underlying9 g3
  obtain ⟨s5, e5, _, z5⟩ := DataW.trod_string Try.underlying9 g5
  obtain ⟨s6, e6, _, z6⟩ := DataW.trod_string Try.underlying9 g6
  obtain ⟨s7, e7, _⟩ := DataW.trod_bool Try.underlying4 g7
  obtain ⟨ia, il, ic, e4, z4, hin⟩ : ∃ ia il ic, [v4] = [Value.slice ia il ic] ∧ il ≤ maxLen ∧ ∀ a, ia = some a → ∃ cs : List Value, cs.length = il ∧ (∀ v ∈ cs, v.oneCell' = true) ∧ ∀ j v, cs[j]? = some v → W.cell? (a.add j) = some v := by
    rcases open_ints Try.underlying34 Try.underlying5 cells5 g4 with ⟨hcs, _⟩ | ⟨a, l, c, zs, hcs, _, hlc, hm, hz, _, hcell, _⟩
    · exact ⟨none, 0, 0, hcs, by unfold maxLen; omega, fun a ha => by simp at ha⟩
    · simp only [if_true] at hz
      refine ⟨some a, l, c, hcs, by omega, fun a' ha' => ?_⟩
      obtain rfl : a = a' := by simpa using ha'
      refine ⟨(zs.take l).map (Value.int .u8), by simp; omega, fun v hv => ?_, fun j v hv => ?_⟩
      · obtain ⟨z, _, rfl⟩ := List.mem_map.1 hv
        rfl
      · have hj : j < l := by
          have := (List.getElem?_eq_some_iff.1 hv).1
          simp at this; omega
        rw [hcell j (by omega)]
        rw [List.getElem?_map, List.getElem?_take, if_pos hj] at hv
        cases hzj : zs[j]? with
        | none => rw [hzj] at hv; simp at hv
        | some z => rw [hzj] at hv; simp at hv; subst hv; simp [List.getD, hzj]
  simp at e0 e1 e2 e3 e4 e5 e6 e7
  subst e0 e1 e2 e3 e4 e5 e6 e7
  unfold maxLen at z0 z1 z2 z3 z4 z5 z6
  exact ⟨⟨s0, s1, s2, s3, ia, il, ic, s5, s6, s7⟩, rfl, ⟨z0, z1, z2, z3, z4, z5, z6⟩, hin⟩

theorem blocks_of {H : Type} {enc : TypeId × Value → H} {W : World} {a : Option Addr} {len cap : Nat} {d : DataW H} {ps : List MemPlace}
    (h : DataW.Trod enc Try.prog W 0 (fun _ => true) true 22 (.slice a len cap) d ps) :
    ∃ F : Nat → Blk, Args W a len F ∧ (∀ i, i < len → (F i).fits) ∧ (∀ i, i < len → (F i).input W) ∧ len ≤ 9223372036854775807 := by
  obtain ⟨fuel, hf⟩ := h
  rcases Deep.open_slice Try.underlying22 hf with ⟨hcs, _⟩ | ⟨x, l, c, m, n, D, P, hcs, _, hl, hm, hmm, _, hcell⟩
  · simp [Value.cells] at hcs
    obtain ⟨rfl, rfl, rfl⟩ := hcs
    exact ⟨fun _ => ⟨.empty, .empty, .empty, .empty, none, 0, 0, .empty, .empty, false⟩, fun h => absurd h (by omega), fun i h => absurd h (by omega), fun i h => absurd h (by omega), by omega⟩
  · simp [Value.cells] at hcs
    obtain ⟨rfl, rfl, rfl⟩ := hcs
    have hlm : len ≤ m := by rw [hmm]; split <;> omega
    have ev : ∀ i, i < len → ∃ b : Blk, (∀ j v, b.cells[j]? = some v → W.cell? ((x.add (i * 8)).add j) = some v) ∧ b.fits ∧ b.input W := by
      intro i hi
      obtain ⟨cs', h1, h2⟩ := hcell i (by omega)
      rw [cells36] at h1
      obtain ⟨_, hlen, hc⟩ := World.cells?_some h1
      obtain ⟨b, rfl, hf, hin⟩ := blk_of hlen h2
      refine ⟨b, fun j v hv => ?_, hf, hin⟩
      have hj : j < 8 := by have := (List.getElem?_eq_some_iff.1 hv).1; simpa [Blk.cells] using this
      have := hc j hj
      rw [this, ← hv]
    have inh : Inhabited Blk := ⟨⟨.empty, .empty, .empty, .empty, none, 0, 0, .empty, .empty, false⟩⟩
    obtain ⟨F, hF⟩ := Deep.choose_lt ev
    refine ⟨F, fun h0 => ?_, fun i hi => (hF i hi).2.1, fun i hi => (hF i hi).2.2, by unfold maxLen at hm; omega⟩
    have c0 := (hF 0 h0).1 0 _ rfl
    obtain ⟨sb, so, sp⟩ := x
    have hspot : sp = none := by simpa [Addr.add] using World.cell?_spot c0
    subst hspot
    refine ⟨sb, so, rfl, by simpa [Addr.add] using World.block_lt_of_cell? W _ c0, fun i hi j v hv => ?_⟩
    have := (hF i hi).1 j v hv
    rw [Addr.add_mid, Addr.add_mid] at this
    exact this

end Go.Proofs.Qxb6629352a
