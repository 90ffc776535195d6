/-
  Seat b6630523a. THE WALK of cloneInts (6).
-/
import Derived.Test.Qxb6630523aTook
import Derived.Lib.LazyBuf
namespace Go.Proofs.Qxb6630523a
open Go.RowKit
attribute [local go_sem ↓] Go.wp_at_zero Go.wp_at_succ

theorem Try.info3 : (Try.prog.info? 3).map (fun i => (i.zero, i.size, i.bytes)) = some (some (.int .i64 0), 1, 8) := by kernel_rfl
theorem Try.info4 : (Try.prog.info? 4).map (fun i => (i.zero, i.size, i.bytes)) = some (some (.bool false), 1, 1) := by kernel_rfl
theorem Try.info5 : (Try.prog.info? 5).map (fun i => (i.zero, i.size, i.bytes)) = some (some (.int .u8 0), 1, 1) := by kernel_rfl
theorem Try.info39 : (Try.prog.info? 39).map (fun i => (i.zero, i.size, i.bytes)) = some (some (.agg #[.int .u8 0, .bool false, .bool false, .bool false]), 4, 4) := by kernel_rfl
theorem Try.info43 : (Try.prog.info? 43).map (fun i => (i.zero, i.size, i.bytes)) = some (some (.agg #[.int .u8 0, .int .i64 0, .bool false]), 3, 24) := by kernel_rfl

theorem there_of_owns {w : World} {base : Nat} {e : TypeId} {size g n cap : Nat} {xs : List Value} (h : w.ownsRow base e size (.slice (some ⟨g, 0, none⟩) n cap) n xs) : w.there g 0 (n * size) := fun j hj => by
  refine ⟨?_, h.frozenAt _⟩
  rw [Nat.zero_add, h.cellAt j hj, List.getElem?_eq_getElem (by rw [h.1]; exact hj)]
  rfl

/-- A row of n values in the making: k of them are there. -/
structure Fill (w wr : World) (g n k : Nat) (V : Nat → Value) : Prop where
  there : wr.there g 0 n
  lt : g < wr.heap.size
  below : Below w.heap.size w wr
  new : w.heap.size ≤ g
  cells : ∀ i, i < k → wr.cell? ⟨g, i, none⟩ = some (V i)

theorem Fill.start {w w1 : World} {e : TypeId} {n : Nat} {V : Nat → Value} {xs : List Value} (hown : w1.ownsRow w.heap.size e 1 (.slice (some ⟨w.heap.size, 0, none⟩) n n) n xs) (hgr : w.grownBy w1 none) : Fill w w1 w.heap.size n 0 V := by
  refine ⟨by simpa using there_of_owns hown, (hown.lt w.heap.size rfl).2, (Below.refl _ _).grown hgr (Nat.le_refl _) (by simp), Nat.le_refl _, fun i h => absurd h (by omega)⟩

/-- The k-th value is stored (it may be stored twice). -/
theorem Fill.store {w wr : World} {g n k : Nat} {V : Nat → Value} (h : Fill w wr g n k V) (hk : k < n) : Fill w (wr.setCell ⟨g, k, none⟩ (V k)) g n (k + 1) V := by
  have ht := World.there_setCells h.there g k [V k]
  obtain ⟨u, hu⟩ := Option.isSome_iff_exists.1 (h.there k hk).1
  rw [Nat.zero_add] at hu
  refine ⟨by simpa [World.setCells] using ht, by simpa [World.setCell] using h.lt, h.below.setCell h.new _, h.new, fun i hi => ?_⟩
  by_cases e : i = k
  · subst e; exact World.cell?_setCell_same _ _ _ hu
  · rw [World.cell?_setCell_other _ _ _ _ (by intro e'; injection e' with _ e2; omega)]
    exact h.cells i (by omega)

theorem Fill.store0 {w wr : World} {g n k : Nat} {V : Nat → Value} (h : Fill w wr g n k V) (v : Value) : Fill w (wr.setCell ⟨g, k, none⟩ v) g n k V := by
  have ht := World.there_setCells h.there g k [v]
  refine ⟨by simpa [World.setCells] using ht, by simpa [World.setCell] using h.lt, h.below.setCell h.new _, h.new, fun i hi => ?_⟩
  rw [World.cell?_setCell_other _ _ _ _ (by intro e'; injection e' with _ e2; omega)]
  exact h.cells i hi

theorem Fill.row {w wr : World} {g n : Nat} {V : Nat → Value} (h : Fill w wr g n n V) : Row wr (some ⟨g, 0, none⟩) n V := fun _ => ⟨g, 0, rfl, h.lt, fun i hi => by rw [Nat.zero_add]; exact h.cells i hi⟩

/-- What cloneInts leaves. -/
def CloneP (n : Nat) (V : Nat → Value) (w : World) (e : Ending) (w' : World) : Prop :=
  ∃ ao cap, e = .returned (.slice ao n cap) ∧ Row w' ao n V ∧ (∀ b o, ao = some ⟨b, o, none⟩ → w.heap.size ≤ b ∧ b < w'.heap.size) ∧ Below w.heap.size w w'

set_option maxRecDepth 10000 in
set_option maxHeartbeats 1000000 in
theorem clone_some (b off n cap : Nat) (V : Nat → Int) (w : World) (hn : n ≤ 65536) (hb : b < w.heap.size) (hV : ∀ i, i < n → w.cell? ⟨b, off + i, none⟩ = some (.int .i64 (V i))) :
    Calls Try.prog 6 #[.slice (some ⟨b, off, none⟩) n cap] w (CloneP n (fun i => .int .i64 (V i)) w) := by
  obtain ⟨i0, hi, hz0, hz1, hz2⟩ := info_parts Try.info3
  have HI : Hid (Try.prog.info? 3 = some i0 ∧ i0.zero = some (.int .i64 0) ∧ i0.size = 1 ∧ i0.bytes = 8) := ⟨hi, hz0, hz1, hz2⟩
  clear hi hz0 hz1 hz2
  have HV : Hid (∀ i, i < n → w.cell? ⟨b, off + i, none⟩ = some (.int .i64 (V i))) := hV
  clear hV
  have heq := fun (wx : World) (a : Option Addr) (l c : Nat) => Lib.run_eql_slice_nil (P := Try.prog) wx 24 3 a l c 0 0 Try.underlying24
  go_enter Try.func6, Try.ntmps6
  go_wp2_with (at_make; refine wpList_make_full _ rfl (.tmp 8) (.tmp 8) 24 rfl w.heap.size 3 i0 _ 1 Try.underlying24 HI.out.1 HI.out.2.1 HI.out.2.2.1 .i64 .i64 n n n rfl rfl rfl rfl (by rw [HI.out.2.2.2]; omega) (by unfold maxLen; omega) (Nat.le_refl _) ?_; intro w1 hown hgr)
  have H0 : Hid (Fill w w1 w.heap.size n 0 (fun i => .int .i64 (V i))) := Fill.start hown hgr
  clear hown hgr
  go_loopw [4] (fun v wr => ∃ k : Nat, k ≤ n ∧ v = .int .i64 k ∧ Hid (Fill w wr w.heap.size n k (fun i => .int .i64 (V i)))) (fun v _ => n - (intOf v).toNat)
  case atStart => exact ⟨0, Nat.zero_le _, rfl, H0⟩
  case round =>
    obtain ⟨k, hk, rfl, hC⟩ := hrel
    by_cases hlt : k < n
    · have hlt' : (k : Int) < (n : Int) := by omega
      have hk1 : (0 : Int) ≤ (k : Int) := by omega
      have hw : wr.cell? ⟨b, off + k, none⟩ = some (.int .i64 (V k)) := (hC.out.below.cell hb).trans (HV.out k hlt)
      obtain ⟨u, hu⟩ := Option.isSome_iff_exists.1 (hC.out.there k hlt).1
      have hfr := (hC.out.there k hlt).2
      rw [Nat.zero_add] at hu hfr
      have hfin : Hid (Fill w (wr.setCell ⟨w.heap.size, k, none⟩ (.int .i64 (V k))) w.heap.size n (k + 1) (fun i => .int .i64 (V i))) := hC.out.store hlt
      go_wp2
      go_roundw
      case rel => exact ⟨k + 1, by omega, by go_num, hfin⟩
      case measure => simp [intOf]; omega
    · go_wp2
      go_ret
      obtain rfl : k = n := by omega
      exact ⟨_, _, rfl, hC.out.row, fun b o e => by cases e; exact ⟨Nat.le_refl _, hC.out.lt⟩, hC.out.below⟩

set_option maxRecDepth 10000 in
set_option maxHeartbeats 400000 in
theorem clone_none (a : Addr) (cap : Nat) (V : Nat → Value) (w : World) : Calls Try.prog 6 #[.slice (some a) 0 cap] w (CloneP 0 V w) := by
  obtain ⟨i0, hi, hz0, hz1, hz2⟩ := info_parts Try.info3
  have heq := fun (wx : World) (a : Option Addr) (l c : Nat) => Lib.run_eql_slice_nil (P := Try.prog) wx 24 3 a l c 0 0 Try.underlying24
  go_enter Try.func6, Try.ntmps6
  go_wp2_with (at_make; refine wpList_make_full _ rfl (.tmp 8) (.tmp 8) 24 rfl w.heap.size 3 i0 _ 1 Try.underlying24 hi hz0 hz1 .i64 .i64 0 0 0 rfl rfl rfl rfl (by omega) (by unfold maxLen; omega) (Nat.le_refl _) ?_; intro w1 hown hgr)
  have H0 : Hid (Fill w w1 w.heap.size 0 0 V) := Fill.start hown hgr
  clear hown hgr
  refine wp_loop_rounds 1 ?_
  rw [rounds_succ]
  go_wp2
  go_ret
  exact ⟨_, _, rfl, H0.out.row, fun b o e => by cases e; exact ⟨Nat.le_refl _, H0.out.lt⟩, H0.out.below⟩

set_option maxHeartbeats 400000 in
theorem clone_nil (cap : Nat) (V : Nat → Value) (w : World) : Calls Try.prog 6 #[.slice none 0 cap] w (CloneP 0 V w) := by
  have heq := fun (wx : World) (a : Option Addr) (l c : Nat) => Lib.run_eql_slice_nil (P := Try.prog) wx 24 3 a l c 0 0 Try.underlying24
  go_enter Try.func6, Try.ntmps6
  go_wp2
  go_ret
  exact ⟨_, _, rfl, fun h => absurd h (by omega), fun b o e => (by cases e), Below.refl _ _⟩

/-- ████ cloneInts. -/
theorem clone_any (ao : Option Addr) (n cap : Nat) (V : Nat → Int) (w : World) (hn : n ≤ 65536) (hV : Row w ao n (fun i => .int .i64 (V i))) :
    Calls Try.prog 6 #[.slice ao n cap] w (CloneP n (fun i => .int .i64 (V i)) w) := by
  by_cases h0 : n = 0
  · subst h0
    cases ao with
    | none => exact clone_nil cap _ w
    | some a => exact clone_none a cap _ w
  · obtain ⟨b, off, rfl, hb, hB⟩ := hV (by omega)
    exact clone_some b off n cap V w hn hb hB
end Go.Proofs.Qxb6630523a
