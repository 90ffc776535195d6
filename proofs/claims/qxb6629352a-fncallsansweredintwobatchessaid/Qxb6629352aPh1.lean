/-
  Seat b6629352a. THE WALK of core.CallsAnswered (8).
-/
import Derived.Test.Qxb6629352aMap
import Derived.Test.Qxb6629352aRank
import Derived.Deep.RegionHeld3
import Derived.Deep.DrawnRows
import Derived.Deep.AppendLies
namespace Go.Proofs.Qxb6629352a
open Go.RowKit
attribute [local go_sem ↓] Go.wp_at_zero Go.wp_at_succ

theorem Try.info3 : (Try.prog.info? 3).map (fun i => (i.zero, i.size, i.bytes)) = some (some (.int .i64 0), 1, 8) := by kernel_rfl

/-- The numbers of a list of indices, as cells. -/
def nums (l : List Nat) : List Value := l.map fun (x : Nat) => .int .i64 (x : Int)

/-- Behind k rounds of the first loop. -/
structure Ph1 (w wr : World) (bx : Value) (F : Nat → Blk) (k : Nat) (V : List UInt8 → Value) : Prop where
  map : Waits wr (w.heap.size + 1 + 1) k V
  rows : ∀ s, wr.ownsRow (w.heap.size + 1 + 1 + 1) 3 1 (V s) (Pl.calls (uk F) s k).length (nums (Pl.calls (uk F) s k))
  apart : ∀ s t, s ≠ t → (V s).ownBlock = none ∨ (V s).ownBlock ≠ (V t).ownBlock
  below : Below w.heap.size w wr
  box : wr.cell? ⟨w.heap.size + 1, 1, none⟩ = some bx

theorem Ph1.kept {w wr w' : World} {bx : Value} {F : Nat → Blk} {k : Nat} {V : List UInt8 → Value} (h : Ph1 w wr bx F k V) (hg : wr.grownBy w' none) : Ph1 w w' bx F k V := by
  refine ⟨h.map.kept hg (by simp), fun s => (h.rows s).kept hg (by cases (V s).ownBlock <;> simp), h.apart, h.below.grown hg h.below.size (by simp), hg.cell h.box (by simp)⟩
theorem grownBy_drew (w : World) : w.grownBy w.drew none := ⟨rfl, rfl, rfl, Nat.le_refl _, fun _ _ _ => rfl⟩

/-- The round that is no call. -/
theorem Ph1.skip {w wr : World} {bx : Value} {F : Nat → Blk} {k : Nat} {V : List UInt8 → Value} (h : Ph1 w wr bx F k V) (hu : isUse (F k) = false) : Ph1 w wr bx F (k + 1) V :=
  ⟨h.map.mono (by omega), fun s => by rw [Pl.calls_miss (uk_not hu)]; exact h.rows s, h.apart, h.below, h.box⟩

/-- The round of a call: the append, then the store. -/
theorem Ph1.put {w W w1 w2 : World} {bx : Value} {F : Nat → Blk} {k : Nat} {V : List UInt8 → Value} (h : Ph1 w W bx F k V) (hu : uk F k = some (F k).id.toList)
    {g cap : Nat} (hown : w1.ownsRow (w.heap.size + 1 + 1 + 1) 3 1 (.slice (some ⟨g, 0, none⟩) ((Pl.calls (uk F) (F k).id.toList k).length + 1) cap) ((Pl.calls (uk F) (F k).id.toList k).length + 1) (nums (Pl.calls (uk F) (F k).id.toList k) ++ [.int .i64 (k : Int)]))
    (hgr : W.grownBy w1 (V (F k).id.toList).ownBlock) (hat : (V (F k).id.toList).ownBlock = some g ∨ W.heap.size ≤ g)
    (hW : Waits w2 (w.heap.size + 1 + 1) (k + 1) (upd V (F k).id.toList (.slice (some ⟨g, 0, none⟩) ((Pl.calls (uk F) (F k).id.toList k).length + 1) cap))) (hg2 : w1.grownBy w2 (some (w.heap.size + 1 + 1))) :
    Ph1 w w2 bx F (k + 1) (upd V (F k).id.toList (.slice (some ⟨g, 0, none⟩) ((Pl.calls (uk F) (F k).id.toList k).length + 1) cap)) := by
  have hlt : ∀ s b, (V s).ownBlock = some b → w.heap.size + 1 + 1 + 1 ≤ b ∧ b < W.heap.size := fun s b hb => (h.rows s).lt b hb
  have hmb := h.map.lt
  have hgb : w.heap.size + 1 + 1 + 1 ≤ g := (hown.lt g rfl).1
  refine ⟨hW, fun s => ?_, fun s t hne => ?_, ?_, ?_⟩
  · by_cases e : s = (F k).id.toList
    · subst e
      have e1 : upd V (F k).id.toList (.slice (some ⟨g, 0, none⟩) ((Pl.calls (uk F) (F k).id.toList k).length + 1) cap) (F k).id.toList = .slice (some ⟨g, 0, none⟩) ((Pl.calls (uk F) (F k).id.toList k).length + 1) cap := by simp [upd]
      rw [e1, Pl.calls_hit hu]
      have e2 : nums (Pl.calls (uk F) (F k).id.toList k ++ [k]) = nums (Pl.calls (uk F) (F k).id.toList k) ++ [.int .i64 (k : Int)] := by simp [nums]
      rw [e2, List.length_append]
      exact hown.kept hg2 (Or.inr (by simp [Value.ownBlock]; omega))
    · have e1 : upd V (F k).id.toList (.slice (some ⟨g, 0, none⟩) ((Pl.calls (uk F) (F k).id.toList k).length + 1) cap) s = V s := by simp [upd, e]
      rw [e1, Pl.calls_miss (by rw [hu]; simpa using fun h => e h.symm)]
      refine ((h.rows s).kept hgr (h.apart s _ e)).kept hg2 ?_
      cases hb : (V s).ownBlock with
      | none => exact Or.inl rfl
      | some b => have := (hlt s b hb).1; exact Or.inr (by simp; omega)
  · have key : ∀ s, s ≠ (F k).id.toList → (V s).ownBlock = none ∨ (V s).ownBlock ≠ some g := fun s e => by
      rcases h.apart s _ e with h1 | h1
      · exact Or.inl h1
      · rcases hat with h2 | h2
        · rw [h2] at h1; exact Or.inr h1
        · cases hb : (V s).ownBlock with
          | none => exact Or.inl rfl
          | some b => have := (hlt s b hb).2; exact Or.inr (by simp; omega)
    by_cases e : s = (F k).id.toList
    · have et : t ≠ (F k).id.toList := fun e' => hne (e.trans e'.symm)
      have e1 : upd V (F k).id.toList (.slice (some ⟨g, 0, none⟩) ((Pl.calls (uk F) (F k).id.toList k).length + 1) cap) s = .slice (some ⟨g, 0, none⟩) ((Pl.calls (uk F) (F k).id.toList k).length + 1) cap := by simp [upd, e]
      have e2 : upd V (F k).id.toList (.slice (some ⟨g, 0, none⟩) ((Pl.calls (uk F) (F k).id.toList k).length + 1) cap) t = V t := by simp [upd, et]
      rw [e1, e2]
      right
      show some g ≠ _
      rcases key t et with h1 | h1
      · rw [h1]; simp
      · exact fun e' => h1 e'.symm
    · have e1 : upd V (F k).id.toList (.slice (some ⟨g, 0, none⟩) ((Pl.calls (uk F) (F k).id.toList k).length + 1) cap) s = V s := by simp [upd, e]
      rw [e1]
      by_cases et : t = (F k).id.toList
      · have e2 : upd V (F k).id.toList (.slice (some ⟨g, 0, none⟩) ((Pl.calls (uk F) (F k).id.toList k).length + 1) cap) t = .slice (some ⟨g, 0, none⟩) ((Pl.calls (uk F) (F k).id.toList k).length + 1) cap := by simp [upd, et]
        rw [e2]
        exact key s e
      · have e2 : upd V (F k).id.toList (.slice (some ⟨g, 0, none⟩) ((Pl.calls (uk F) (F k).id.toList k).length + 1) cap) t = V t := by simp [upd, et]
        rw [e2]
        exact h.apart s t hne
  · have h1 : Below w.heap.size w w1 := h.below.grown hgr h.below.size (fun b hb => by have := (hlt _ b hb).1; omega)
    exact h1.grown hg2 h1.size (fun b hb => by cases hb; omega)
  · have hb1 : some (w.heap.size + 1) ≠ (V (F k).id.toList).ownBlock := fun e => by have := (hlt _ _ e.symm).1; omega
    exact hg2.cell (hgr.cell h.box hb1) (by simp)

end Go.Proofs.Qxb6629352a
