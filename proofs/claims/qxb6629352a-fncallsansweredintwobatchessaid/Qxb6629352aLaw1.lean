/-
  Seat b6629352a. THE WALK of FnCallsAnsweredMatchesRankModel (3).
-/
import Derived.Test.Qxb6629352aCalls
import Derived.Test.Qxb6629352aCore
import Derived.Test.Qxb6629352aBytes
namespace Go.Proofs.Qxb6629352a
open Go.RowKit

namespace Pl
theorem cnt_congr {K : Type} [DecidableEq K] {f g : Nat → Option K} {key : K} : ∀ n, (∀ j, j < n → f j = g j) → cnt f key n = cnt g key n
  | 0, _ => rfl
  | n + 1, h => by unfold cnt; rw [cnt_congr n (fun j hj => h j (by omega)), h n (by omega)]
theorem calls_congr {K : Type} [DecidableEq K] {f g : Nat → Option K} {key : K} : ∀ n, (∀ j, j < n → f j = g j) → calls f key n = calls g key n
  | 0, _ => rfl
  | n + 1, h => by unfold calls; rw [calls_congr n (fun j hj => h j (by omega)), h n (by omega)]
theorem ans_congr {K : Type} [DecidableEq K] {u u' r r' : Nat → Option K} {R i : Nat} (h1 : ∀ j, j < R → u j = u' j) (h2 : ∀ j, j ≤ i → r j = r' j) : ans u R r i = ans u' R r' i := by
  unfold ans
  rw [h2 i (Nat.le_refl _)]
  split
  · rfl
  · rw [calls_congr R h1, cnt_congr i (fun j hj => h2 j (by omega))]
end Pl

theorem uk_same {F F' : Nat → Blk} {n : Nat} (h : ∀ i, i < n → Same (F' i) (F i)) : ∀ j, j < n → uk F' j = uk F j := fun j hj => by
  obtain ⟨h1, h2, _⟩ := h j hj
  simp only [uk, isUse, h1, h2]; rfl
theorem rk_same {F F' : Nat → Blk} {n : Nat} (h : ∀ i, i < n → Same (F' i) (F i)) : ∀ j, j < n → rk F' j = rk F j := fun j hj => by
  obtain ⟨h1, _, h3⟩ := h j hj
  simp only [rk, isRes, h1, h3]; rfl

theorem Args.below {w w' : World} {ao : Option Addr} {n : Nat} {F : Nat → Blk} (h : Args w ao n F) (hb : Below w.heap.size w w') : Args w' ao n F := fun hn => by
  obtain ⟨b, off, e, hl, hB⟩ := h hn
  exact ⟨b, off, e, Nat.lt_of_lt_of_le hl hb.size, fun i hi j v hv => (hb.cell (p := ⟨b, off + i * 8 + j, none⟩) hl).trans (hB i hi j v hv)⟩
theorem input_below {w w' : World} {c : Blk} (h : c.input w) (hb : Below w.heap.size w w') : c.input w' := fun a ha => by
  obtain ⟨cs, h1, h2, h3⟩ := h a ha
  exact ⟨cs, h1, h2, fun j v hv => (hb.cell (World.block_lt_of_cell? w _ (h3 j v hv))).trans (h3 j v hv)⟩
theorem Blocks.below {w w' : World} {b off n : Nat} {F : Nat → Blk} (h : Blocks w b off n F) (hl : b < w.heap.size) (hb : Below w.heap.size w w') : Blocks w' b off n F :=
  fun i hi j v hv => (hb.cell (p := ⟨b, off + i * 8 + j, none⟩) hl).trans (h i hi j v hv)
theorem bel_drewN (w : World) (q : Nat) : Below w.heap.size w (w.drewN q) := ⟨rfl, rfl, rfl, Nat.le_refl _, fun _ _ => rfl⟩

/-- What is known of the two slices of blocks that came in. -/
structure Given (w : World) (ra sa : Option Addr) (R S : Nat) (F G : Nat → Blk) : Prop where
  f : Args w ra R F
  g : Args w sa S G
  ff : ∀ i, i < R → (F i).fits
  gf : ∀ i, i < S → (G i).fits
  fi : ∀ i, i < R → (F i).input w
  gi : ∀ i, i < S → (G i).input w

set_option maxRecDepth 10000 in
set_option maxHeartbeats 1000000 in
theorem law1_walk (r1 r2 : ByteArray) (ra sa : Option Addr) (R S rc sc : Nat) (F G : Nat → Blk) (w : World) (h1 : r1.size ≤ 9223372036854775807) (h2 : r2.size ≤ 9223372036854775807) (hR : R ≤ 9223372036854775807) (hS : S ≤ 9223372036854775807)
    (hg : Given w ra sa R S F G) :
    Calls Try.prog 3 #[.string r1, .slice ra R rc, .string r2, .slice sa S sc] w fun e w' => e = .returned (.bool true) ∧ Below w.heap.size w w' := by
  have HG : Hid (Given w ra sa R S F G) := hg
  clear hg
  go_enter Try.func3, Try.ntmps3
  go_wp2_with fail
  refine (bytes5_any r1 r2 ra sa R S rc sc F G _ h1 h2 hR hS HG.out.f HG.out.ff HG.out.g HG.out.gf).mono ?_
  rintro e w' ⟨v, rfl, rfl⟩
  cases v
  · go_wp2
    go_ret
    exact ⟨rfl, Below.refl _ _⟩
  by_cases t1 : 65536 < r1.size
  · go_wp2
    go_ret
    exact ⟨rfl, Below.refl _ _⟩
  by_cases t2 : 65536 < r2.size
  · go_wp2
    go_ret
    exact ⟨rfl, Below.refl _ _⟩
  go_wp2_with fail
  refine (tooBig_any ra sa R S rc sc F G _ hR hS HG.out.f HG.out.ff HG.out.g HG.out.gf).mono ?_
  rintro e w' ⟨v, rfl, rfl, hv⟩
  cases v
  case true =>
    clear hv
    go_wp2
    go_ret
    exact ⟨rfl, Below.refl _ _⟩
  obtain ⟨hR4, hS4, hFi, hGi⟩ := hv rfl
  have HIL : Hid ((∀ i, i < R → (F i).il ≤ 1048576) ∧ ∀ i, i < S → (G i).il ≤ 1048576) := ⟨hFi, hGi⟩
  clear hv hFi hGi
  go_wp2_with fail
  refine (toCore_any ra R rc F _ hR4 HG.out.f HG.out.fi HIL.out.1).mono ?_
  rintro e w1 ⟨g1, F', rfl, hg1, hg1', _, hsF, hBF, hb1⟩
  have HC1 : Hid (w.heap.size ≤ g1 ∧ g1 < w1.heap.size ∧ (∀ i, i < R → Same (F' i) (F i)) ∧ Blocks w1 g1 0 R F' ∧ Below w.heap.size w w1) := ⟨hg1, hg1', hsF, hBF, hb1⟩
  clear hg1 hg1' hsF hBF hb1
  go_wp2_with fail
  refine (toCore_any sa S sc G _ hS4 (HG.out.g.below HC1.out.2.2.2.2) (fun i hi => input_below (HG.out.gi i hi) HC1.out.2.2.2.2) HIL.out.2).mono ?_
  rintro e w2 ⟨g2, G', rfl, hg2, hg2', _, hsG, hBG, hb2⟩
  have HC2 : Hid (w1.heap.size ≤ g2 ∧ g2 < w2.heap.size ∧ (∀ i, i < S → Same (G' i) (G i)) ∧ Blocks w2 g2 0 S G' ∧ Below w1.heap.size w1 w2) := ⟨hg2, hg2', hsG, hBG, hb2⟩
  clear hg2 hg2' hsG hBG hb2
  go_wp2_with fail
  refine (calls_main r1 r2 g1 0 R R g2 0 S S F' G' _ hR4 hS4 (Nat.lt_of_lt_of_le HC1.out.2.1 HC2.out.2.2.2.2.size) HC2.out.2.1 (HC1.out.2.2.2.1.below HC1.out.2.1 HC2.out.2.2.2.2) HC2.out.2.2.2.1
    (fun i hi => by have := HG.out.ff i hi; rw [(HC1.out.2.2.1 i hi).2.1]; unfold maxLen; have := this.id; omega) (fun i hi => by have := HG.out.gf i hi; rw [(HC2.out.2.2.1 i hi).2.2]; unfold maxLen; have := this.tu; omega)).mono ?_
  rintro e w3 ⟨g3, rfl, hg3, hg3', hans, hb3⟩
  have HA : Hid (∀ i, i < S → w3.cell? ⟨g3, i, none⟩ = some (.int .i64 (Pl.ans (uk F) R (rk G) i))) := fun i hi => by
    rw [hans i hi, Pl.ans_congr (uk_same HC1.out.2.2.1) (fun j hj => rk_same HC2.out.2.2.1 j (by omega))]
  have hbel : Hid (Below w.heap.size w w3) := by
    have b1 := HC1.out.2.2.2.2
    have b2 := HC2.out.2.2.2.2.mono (B' := w.heap.size) b1.size
    exact (b1.trans b2).trans (hb3.mono (Nat.le_trans b1.size b2.size))
  clear hg3 hans hb3 HC1 HC2 HIL
  have hnn : ((S : Int) != (S : Int)) = false := by simp
  go_wp2
  go_loopw [12] (fun i wr => ∃ k : Nat, k ≤ S ∧ i = .int .i64 k ∧ Hid (Below w3.heap.size w3 wr)) (fun i _ => S - (intOf i).toNat)
  case atStart => exact ⟨0, Nat.zero_le _, rfl, Below.refl _ _⟩
  case round =>
    obtain ⟨k, hk, rfl, hW⟩ := hrel
    by_cases hlt : k < S
    · have hlt' : (k : Int) < (S : Int) := by omega
      obtain ⟨sb, so, rfl, hsl, hBG⟩ := (HG.out.g.below hbel.out) (by omega)
      have HB : Hid (∀ n, Blocks (wr.drewN n) sb so S G) := fun n => hBG.below hsl (hW.out.trans ((bel_drewN wr n).mono hW.out.size))
      have HA1 : Hid (∀ n, Args (wr.drewN n) ra R F) := fun n => ((HG.out.f.below hbel.out).below hW.out).below (bel_drewN _ n)
      have hc : wr.cell? ⟨g3, k, none⟩ = some (.int .i64 (Pl.ans (uk F) R (rk G) k)) := (hW.out.cell hg3').trans (HA.out k hlt)
      clear hBG hsl
      go_wp2_with fail
      go_quiet ((go_at_call 9; exact Calls.quiet_of (rankAnswer_any ra R rc sb so S sc k F G _ hR4 hS4 hlt (HA1.out _) (HB.out _))))
      go_wp2
      go_roundw
      case rel => exact ⟨k + 1, by omega, by go_num, hW.out.trans ((bel_drewN wr _).mono hW.out.size)⟩
      case measure => simp [intOf]; omega
    · go_wp2
      go_ret
      exact ⟨rfl, hbel.out.trans (hW.out.mono hbel.out.size)⟩
end Go.Proofs.Qxb6629352a
