/-
  Seat b6629352a. 'rep2[a].Type = "text"': the calls that the first batch took, marked as no calls.
-/
import Derived.Test.Qxb6629352aLaw1
import Derived.Test.Qxb6629352aPlain2
namespace Go.Proofs.Qxb6629352a
open Go.RowKit

def textB : ByteArray := ⟨#[116, 101, 120, 116]⟩

/-- The copy of the reply behind k marks. -/
def marked (u : Nat → Option (List UInt8)) (R : Nat) (r : Nat → Option (List UInt8)) (F7 : Nat → Blk) : Nat → Nat → Blk
  | 0 => F7
  | k + 1 => fun j => if Pl.ans u R r k = ((j : Nat) : Int) then { marked u R r F7 k j with ty := textB } else marked u R r F7 k j

theorem marked_spec (u : Nat → Option (List UInt8)) (R : Nat) (r : Nat → Option (List UInt8)) (F7 : Nat → Blk) (j : Nat) :
    ∀ k, (Pl.taken u R r k j → (marked u R r F7 k j).ty = textB) ∧ (¬ Pl.taken u R r k j → (marked u R r F7 k j).ty = (F7 j).ty) ∧ (marked u R r F7 k j).id = (F7 j).id ∧ (marked u R r F7 k j).tu = (F7 j).tu
  | 0 => ⟨fun h => absurd h Pl.taken_zero, fun _ => rfl, rfl, rfl⟩
  | k + 1 => by
    obtain ⟨h1, h2, h3, h4⟩ := marked_spec u R r F7 j k
    by_cases e : Pl.ans u R r k = ((j : Nat) : Int)
    · simp only [marked, if_pos e]
      exact ⟨fun _ => trivial, fun h => absurd (Pl.taken_succ.2 (Or.inr e)) h, h3, h4⟩
    · simp only [marked, if_neg e]
      refine ⟨fun h => h1 ?_, fun h => h2 (fun h' => h (Pl.taken_succ.2 (Or.inl h'))), h3, h4⟩
      rcases Pl.taken_succ.1 h with h | h
      · exact h
      · exact absurd h e

theorem isUse_text {b : Blk} (h : b.ty = textB) : isUse b = false := by
  unfold isUse
  rw [h, Go.ByteArray.toList_eq]
  decide

theorem uk_marked {u : Nat → Option (List UInt8)} {R : Nat} {r : Nat → Option (List UInt8)} {F7 : Nat → Blk} {c : Nat} (h7 : ∀ j, j < R → uk F7 j = u j) :
    ∀ j, j < R → (Pl.taken u R r c j → uk (marked u R r F7 c) j = none) ∧ (¬ Pl.taken u R r c j → uk (marked u R r F7 c) j = u j) := fun j hj => by
  obtain ⟨h1, h2, h3, _⟩ := marked_spec u R r F7 j c
  refine ⟨fun h => ?_, fun h => ?_⟩
  · have := isUse_text (h1 h)
    simp [uk, this]
  · rw [← h7 j hj]
    have e : isUse (marked u R r F7 c j) = isUse (F7 j) := by unfold isUse; rw [h2 h]
    unfold uk; rw [e, h3]

/-- The marked copy in memory. -/
structure Mk (w6 wr : World) (g7 R : Nat) (Fk : Nat → Blk) : Prop where
  there : wr.there g7 0 (R * 8)
  blocks : Blocks wr g7 0 R Fk
  lt : g7 < wr.heap.size
  below : Below w6.heap.size w6 wr

theorem Mk.step {w6 wr : World} {g7 R : Nat} {u r : Nat → Option (List UInt8)} {F7 : Nat → Blk} {k a : Nat} (h : Mk w6 wr g7 R (marked u R r F7 k)) (hg : w6.heap.size ≤ g7) (ha : a < R) (hk : Pl.ans u R r k = ((a : Nat) : Int)) :
    Mk w6 (wr.setCell ⟨g7, a * 8, none⟩ (.string textB)) g7 R (marked u R r F7 (k + 1)) := by
  have ht := World.there_setCells h.there g7 (a * 8) [.string textB]
  have hs := grownBy_store wr g7 (a * 8) (.string textB)
  refine ⟨by simpa [World.setCells] using ht, fun i hi j v hv => ?_, Nat.lt_of_lt_of_le h.lt hs.size, h.below.setCell hg _⟩
  by_cases e : i = a
  · subst e
    simp only [marked, if_pos hk] at hv
    by_cases hj : j = 0
    · subst hj
      obtain rfl : Value.string textB = v := by simpa [Blk.cells] using hv
      have := (h.there (i * 8) (by omega)).1
      obtain ⟨u0, hu0⟩ := Option.isSome_iff_exists.1 this
      rw [Nat.zero_add] at hu0
      rw [show 0 + i * 8 + 0 = i * 8 from by omega]
      exact World.cell?_setCell_same _ _ _ hu0
    · rw [World.cell?_setCell_other _ _ _ _ (by intro e; injection e with _ e2; omega)]
      refine h.blocks i hi j v ?_
      obtain ⟨j, rfl⟩ : ∃ j', j = j' + 1 := ⟨j - 1, by omega⟩
      simpa [Blk.cells] using hv
  · have hne : ¬ Pl.ans u R r k = ((i : Nat) : Int) := by rw [hk]; omega
    simp only [marked, if_neg hne] at hv
    have hj8 : j < 8 := by have := (List.getElem?_eq_some_iff.1 hv).1; simpa [Blk.cells] using this
    rw [World.cell?_setCell_other _ _ _ _ (by intro e; injection e with _ e2; omega)]
    exact h.blocks i hi j v hv

theorem marked_same {u : Nat → Option (List UInt8)} {R : Nat} {r : Nat → Option (List UInt8)} {F7 : Nat → Blk} {k : Nat} (hk : Pl.ans u R r k = -1) : marked u R r F7 (k + 1) = marked u R r F7 k := by
  funext j
  simp only [marked]
  rw [if_neg (by rw [hk]; omega)]

theorem Mk.skip {w6 wr : World} {g7 R : Nat} {u r : Nat → Option (List UInt8)} {F7 : Nat → Blk} {k : Nat} (h : Mk w6 wr g7 R (marked u R r F7 k)) (hk : Pl.ans u R r k = -1) : Mk w6 wr g7 R (marked u R r F7 (k + 1)) := by
  rw [marked_same hk]; exact h

end Go.Proofs.Qxb6629352a
