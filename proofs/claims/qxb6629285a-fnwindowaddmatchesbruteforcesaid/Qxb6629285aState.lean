/-
  Seat b6629285a. THE TWO WINDOWS side by side in memory, and what one call of Add on each does to them: contracts fit for the law's walk.
-/
import Derived.Test.Qxb6629285aAdd
namespace Go.Proofs.Qxb6629285a
open Go.RowKit

theorem Queue.drew {w : World} {B : Nat} {g : Option Nat} {v : Value} {n : Nat} {T C : Nat → Int} (h : Queue w B g v n T C) : Queue w.drew B g v n T C :=
  ⟨h.nil, fun b hb => by
    obtain ⟨off, cap, e, h4, h5, h6, h7, h8, h9⟩ := h.row b hb
    exact ⟨off, cap, e, h4, h5, h6, h7, h8, (World.there_drew w b off _).2 h9⟩⟩
theorem Win.drew {w : World} {B : Nat} {g : Option Nat} {len : Int} {lg : Bool} {n : Nat} {T C : Nat → Int} (h : Win w B g len lg n T C) : Win w.drew B g len lg n T C :=
  ⟨h.c0, h.c1, by obtain ⟨v, hv, hq⟩ := h.c2; exact ⟨v, hv, hq.drew⟩, h.f2⟩

/-- The script's bounds, as the law's first loop leaves them. -/
structure Script (len sh : Int) (At Ct : Nat → Int) (N : Nat) : Prop where
  l1 : -4611686018427387904 ≤ len
  l2 : len ≤ 4611686018427387904
  s1 : -1152921504606846976 ≤ sh
  s2 : sh ≤ 1152921504606846976
  few : N ≤ 4096
  at1 : ∀ j, j < N → -1152921504606846976 ≤ At j ∧ At j ≤ 1152921504606846976
  mono : ∀ j, 0 < j → j < N → At (j - 1) ≤ At j
  ct : ∀ j, j < N → -9223372036854775807 ≤ Ct j ∧ Ct j ≤ 9223372036854775807

theorem mono_all {At : Nat → Int} {N : Nat} (h : ∀ j, 0 < j → j < N → At (j - 1) ≤ At j) : ∀ k, k < N → ∀ j, j < k → At j ≤ At k
  | 0, _, j, hj => absurd hj (by omega)
  | k + 1, hk, j, hj => by
    have h1 := h (k + 1) (by omega) hk
    rw [Nat.add_sub_cancel] at h1
    by_cases e : j = k
    · subst e; exact h1
    · have := mono_all h k (by omega) j (by omega); omega

/-- Both windows behind k rounds. -/
structure Two (w wr : World) (len sh : Int) (At Ct : Nat → Int) (k : Nat) (g1 g2 : Option Nat) (n1 n2 : Nat) (T1 C1 T2 C2 : Nat → Int) : Prop where
  i1 : Pl.Inv true len At Ct k n1 T1 C1
  i2 : Pl.Inv false len (fun j => At j + sh) (fun j => - Ct j) k n2 T2 C2
  w1 : Win wr w.heap.size g1 len true n1 T1 C1
  w2 : Win wr (w.heap.size + 1) g2 len false n2 T2 C2
  a1 : ∀ b, g1 = some b → w.heap.size ≤ b ∧ b ≠ w.heap.size + 1
  a2 : ∀ b, g2 = some b → w.heap.size ≤ b ∧ b ≠ w.heap.size
  a12 : ∀ b, g1 = some b → g2 ≠ some b
  below : Below w.heap.size w wr

def Both (w wr : World) (len sh : Int) (At Ct : Nat → Int) (k : Nat) : Prop := ∃ g1 g2 n1 n2 T1 C1 T2 C2, Two w wr len sh At Ct k g1 g2 n1 n2 T1 C1 T2 C2

theorem Both.drew {w wr : World} {len sh : Int} {At Ct : Nat → Int} {k : Nat} (h : Both w wr len sh At Ct k) : Both w wr.drew len sh At Ct k := by
  obtain ⟨g1, g2, n1, n2, T1, C1, T2, C2, h⟩ := h
  exact ⟨g1, g2, n1, n2, T1, C1, T2, C2, h.i1, h.i2, h.w1.drew, h.w2.drew, h.a1, h.a2, h.a12, h.below.drew⟩

/-- The answer 'hi' at step k. -/
def Best (lg : Bool) (len : Int) (At Ct : Nat → Int) (k : Nat) (hi : Int) : Prop :=
  (∃ j, j ≤ k ∧ (j = k ∨ At k - len < At j) ∧ hi = Ct j) ∧ ∀ j, j ≤ k → (j = k ∨ At k - len < At j) → ¬ Pl.Beats lg (Ct j) hi

/-- The large window has answered, the small one has not yet. -/
def Half (w wr : World) (len sh : Int) (At Ct : Nat → Int) (k : Nat) (hi : Int) : Prop :=
  Best true len At Ct k hi ∧ ∃ g1 g2 n1 n2 T1 C1 T2 C2, Pl.Inv true len At Ct (k + 1) n1 T1 C1 ∧ Pl.Inv false len (fun j => At j + sh) (fun j => - Ct j) k n2 T2 C2 ∧
    Win wr w.heap.size g1 len true n1 T1 C1 ∧ Win wr (w.heap.size + 1) g2 len false n2 T2 C2 ∧ (∀ b, g1 = some b → w.heap.size ≤ b ∧ b ≠ w.heap.size + 1) ∧ (∀ b, g2 = some b → w.heap.size ≤ b ∧ b ≠ w.heap.size) ∧
    (∀ b, g1 = some b → g2 ≠ some b) ∧ Below w.heap.size w wr

theorem Half.drew {w wr : World} {len sh : Int} {At Ct : Nat → Int} {k : Nat} {hi : Int} (h : Half w wr len sh At Ct k hi) : Half w wr.drew len sh At Ct k hi := by
  obtain ⟨hb, g1, g2, n1, n2, T1, C1, T2, C2, h1, h2, h3, h4, h5, h6, h7, h8⟩ := h
  exact ⟨hb, g1, g2, n1, n2, T1, C1, T2, C2, h1, h2, h3.drew, h4.drew, h5, h6, h7, h8.drew⟩

theorem Half.below {w wr : World} {len sh : Int} {At Ct : Nat → Int} {k : Nat} {hi : Int} (h : Half w wr len sh At Ct k hi) : Below w.heap.size w wr := by
  obtain ⟨hb, g1, g2, n1, n2, T1, C1, T2, C2, h1, h2, h3, h4, h5, h6, h7, h8⟩ := h
  exact h8
theorem Both.below {w wr : World} {len sh : Int} {At Ct : Nat → Int} {k : Nat} (h : Both w wr len sh At Ct k) : Below w.heap.size w wr := by
  obtain ⟨g1, g2, n1, n2, T1, C1, T2, C2, h⟩ := h
  exact h.below

theorem add_big {w : World} {len sh : Int} {At Ct : Nat → Int} {N k : Nat} (S : Script len sh At Ct N) (hk : k < N) (wr : World) (h : Both w wr len sh At Ct k) :
    Calls Try.prog 6 #[.pointer (some ⟨w.heap.size, 0, none⟩), .int .i64 (At k), .int .i64 (Ct k)] wr fun e w' => ∃ hi, e = .returned (.int .i64 hi) ∧ Half w w' len sh At Ct k hi := by
  obtain ⟨g1, g2, n1, n2, T1, C1, T2, C2, h⟩ := h
  have hat := S.at1 k hk
  have hfew := h.i1.few
  have hs := S.few
  refine (add_any w.heap.size g1 len (At k) (Ct k) true n1 T1 C1 wr h.w1 (by omega) S.l1 S.l2 (by omega) (by omega)).mono ?_
  rintro e w' ⟨k', m', rfl, hadd, b', hb', hwin, hkept⟩
  have hm := mono_all S.mono k hk
  have hsz := h.w2.lt
  have hsz1 := h.w1.lt
  refine ⟨_, rfl, h.i1.answer hm hadd, some b', g2, m' + 1, n2, _, _, T2, C2, h.i1.step hm hadd, h.i2, hwin, ?_, ?_, h.a2, ?_, ?_⟩
  · refine h.w2.kept hkept (by omega) (fun e => ?_) (fun b hb => ⟨(h.a2 b hb).2, fun e => h.a12 b e.symm hb⟩)
    exact (h.a1 _ e.symm).2 rfl
  · intro b hb
    obtain rfl : b' = b := by simpa using hb
    rcases hb' with hb' | hb'
    · exact h.a1 b' hb'
    · omega
  · intro b hb hg2
    obtain rfl : b' = b := by simpa using hb
    rcases hb' with hb' | hb'
    · exact h.a12 b' hb' hg2
    · obtain ⟨v, hv, hq⟩ := h.w2.c2
      obtain ⟨_, _, _, _, hl, _⟩ := hq.row b' hg2
      omega
  · exact h.below.trans (hkept.below (by have := h.below.size; omega) (Nat.le_refl _) (fun b hb => (h.a1 b hb).1))

theorem add_small {w : World} {len sh : Int} {At Ct : Nat → Int} {N k : Nat} (S : Script len sh At Ct N) (hk : k < N) (hi : Int) (wr : World) (h : Half w wr len sh At Ct k hi) :
    Calls Try.prog 6 #[.pointer (some ⟨w.heap.size + 1, 0, none⟩), .int .i64 (At k + sh), .int .i64 (-Ct k)] wr fun e w' => e = .returned (.int .i64 (-hi)) ∧ Both w w' len sh At Ct (k + 1) := by
  obtain ⟨hbest, g1, g2, n1, n2, T1, C1, T2, C2, h1, h2, h3, h4, h5, h6, h7, h8⟩ := h
  have hat := S.at1 k hk
  have hfew := h2.few
  have hs := S.few
  have hs1 := S.s1
  have hs2 := S.s2
  refine (add_any (w.heap.size + 1) g2 len (At k + sh) (-Ct k) false n2 T2 C2 wr h4 (by omega) S.l1 S.l2 (by omega) (by omega)).mono ?_
  rintro e w' ⟨k', m', rfl, hadd, b', hb', hwin, hkept⟩
  have hm0 := mono_all S.mono k hk
  have hm : ∀ j, j < k → (fun j => At j + sh) j ≤ (fun j => At j + sh) k := fun j hj => by have := hm0 j hj; show At j + sh ≤ At k + sh; omega
  have hsz := h4.lt
  have hsz1 := h3.lt
  have hlo := h2.answer hm hadd
  refine ⟨?_, g1, some b', n1, m' + 1, T1, C1, _, _, h1, h2.step hm hadd, ?_, hwin, h5, ?_, ?_, ?_⟩
  · rw [Pl.mirror (sh := sh) (fun j => rfl) (fun j => rfl) hbest hlo]
  · refine h3.kept hkept (by omega) (fun e => ?_) (fun b hb => ⟨(h5 b hb).2, fun e => h7 b hb e.symm⟩)
    exact (h6 _ e.symm).2 rfl
  · intro b hb
    obtain rfl : b' = b := by simpa using hb
    rcases hb' with hb' | hb'
    · exact h6 b' hb'
    · omega
  · intro b hb hg2
    obtain rfl : b' = b := by simpa using hg2
    rcases hb' with hb' | hb'
    · exact h7 b' hb hb'
    · obtain ⟨v, hv, hq⟩ := h3.c2
      obtain ⟨_, _, _, _, hl, _⟩ := hq.row b' hb
      omega
  · exact h8.trans (hkept.below (by have := h8.size; omega) (by omega) (fun b hb => (h6 b hb).1))

end Go.Proofs.Qxb6629285a
