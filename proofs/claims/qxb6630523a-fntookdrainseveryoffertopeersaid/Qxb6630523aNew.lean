/-
  Seat b6630523a. THE WALK of ZZNewSpread (7).
-/
import Derived.Test.Qxb6630523aClone
namespace Go.Proofs.Qxb6630523a
open Go.RowKit
attribute [local go_sem ↓] Go.wp_at_zero Go.wp_at_succ

/-- A row of n structs of s cells in the making: k of them are there. -/
structure Rowed (w wr : World) (g n k s : Nat) (C : Nat → List Value) : Prop where
  there : wr.there g 0 (n * s)
  lt : g < wr.heap.size
  below : Below w.heap.size w wr
  new : w.heap.size ≤ g
  cells : ∀ i, i < k → wr.rangeAt g (i * s) (C i)

theorem Rowed.start {w w1 : World} {e : TypeId} {n s : Nat} {C : Nat → List Value} {xs : List Value} (hown : w1.ownsRow w.heap.size e s (.slice (some ⟨w.heap.size, 0, none⟩) n n) n xs) (hgr : w.grownBy w1 none) : Rowed w w1 w.heap.size n 0 s C := by
  refine ⟨by simpa using there_of_owns hown, (hown.lt w.heap.size rfl).2, (Below.refl _ _).grown hgr (Nat.le_refl _) (by simp), Nat.le_refl _, fun i h => absurd h (by omega)⟩

theorem below_setCells_n {B g : Nat} {w : World} (hg : B ≤ g) : ∀ (vs : List Value) (o : Nat) (x : World), Below B w x → Below B w (x.setCells g o vs)
  | [], _, _, hx => hx
  | v :: r, _, _, hx => below_setCells_n hg r _ _ (hx.setCell hg v)

theorem Rowed.store {w wr : World} {g n k s : Nat} {C : Nat → List Value} (h : Rowed w wr g n k s C) (hk : k < n) (hs : ∀ i, (C i).length = s) : Rowed w (wr.setCells g (k * s) (C k)) g n (k + 1) s C := by
  have hks : k * s + s ≤ n * s := by rw [← Nat.succ_mul]; exact Nat.mul_le_mul_right s hk
  have ht : wr.there g (k * s) (C k).length := fun j hj => by
    rw [hs k] at hj
    have := h.there (k * s + j) (by omega)
    rwa [Nat.zero_add] at this
  refine ⟨World.there_setCells h.there _ _ _, ?_, below_setCells_n h.new _ _ _ h.below, h.new, fun i hi => ?_⟩
  · have := (World.keptBut_setCells (may := fun _ => True) g (C k) (k * s) wr (fun _ _ => trivial)).size
    exact Nat.lt_of_lt_of_le h.lt this
  · by_cases e : i = k
    · subst e; exact World.rangeAt_setCells_same wr g _ _ ht
    · have h1 : i * s + s ≤ k * s := by rw [← Nat.succ_mul]; exact Nat.mul_le_mul_right s (by omega)
      exact World.rangeAt_setCells_apart (h.cells i (by omega)) g _ _ (Or.inr (Or.inl (by rw [hs i]; omega)))

theorem Rowed.drew {w wr : World} {g n k s : Nat} {C : Nat → List Value} (h : Rowed w wr g n k s C) : Rowed w wr.drew g n k s C :=
  ⟨h.there, h.lt, h.below.trans ⟨rfl, rfl, rfl, Nat.le_refl _, fun _ _ => rfl⟩, h.new, h.cells⟩

/-- What ZZNewSpread leaves. -/
def NewP (n : Nat) (oa : Option Addr) (m oc : Nat) (delay start last : Int) (rt ag : Nat → Bool) (P pe of : Nat → Int) (w : World) (e : Ending) (w' : World) : Prop :=
  ∃ p g1 g2, e = .returned (.pointer (some ⟨p, 0, none⟩)) ∧ w.heap.size ≤ g2 ∧ Sp w' p g1 g2 n oa m oc delay start last rt ag P pe of ∧ Below w.heap.size w w'

def slotC (rt : Nat → Bool) (i : Nat) : List Value := [.int .u8 0, .bool false, .bool (rt i), .bool false]
def stateC (P pe : Nat → Int) (ag : Nat → Bool) (i : Nat) : List Value := [.int .u8 (P i), .int .i64 (pe i), .bool (ag i)]

theorem new_done {w w1 w2 : World} {n : Nat} {oa : Option Addr} {m oc : Nat} {delay start last : Int} {rt ag : Nat → Bool} {P pe of : Nat → Int} {g1 : Nat}
    (h1 : Rowed w w1 g1 n n 4 (slotC rt)) (h2 : Rowed w1 w2 w1.heap.size n n 3 (stateC P pe ag)) (ho : Row w oa m (fun k => .int .i64 (of k))) (hoa : ∀ b o, oa = some ⟨b, o, none⟩ → b < w.heap.size)
    {w3 : World} (h3 : w2.grownBy w3 none) (hsz : w2.heap.size < w3.heap.size) (c0 : w3.cell? ⟨w2.heap.size, 0, none⟩ = some (.slice (some ⟨g1, 0, none⟩) n n)) (c1 : w3.cell? ⟨w2.heap.size, 1, none⟩ = some (.int .i64 delay)) (c2 : w3.cell? ⟨w2.heap.size, 2, none⟩ = some (.int .i64 start)) (c3 : w3.cell? ⟨w2.heap.size, 3, none⟩ = some (.int .i64 last)) (c4 : w3.cell? ⟨w2.heap.size, 4, none⟩ = some (.slice (some ⟨w1.heap.size, 0, none⟩) n n)) (c5 : w3.cell? ⟨w2.heap.size, 5, none⟩ = some (.slice oa m oc)) :
    NewP n oa m oc delay start last rt ag P pe of w (.returned (.pointer (some ⟨w2.heap.size, 0, none⟩))) w3 := by
  have hl1 := h1.lt
  have hl2 := h2.lt
  have hs1 := h1.below.size
  have hs2 := h2.below.size
  have hc : ∀ b o u, w2.cell? ⟨b, o, none⟩ = some u → w3.cell? ⟨b, o, none⟩ = some u := fun b o u hu => h3.cell hu (by simp)
  have hb : Below w.heap.size w w3 := (h1.below.trans (h2.below.mono hs1)).grown h3 (by omega) (by simp)
  refine ⟨_, g1, w1.heap.size, rfl, hs1, ⟨c0, c1, c2, c3, c4, c5, fun k hk => ?_, fun k hk => ?_, fun k hk => ?_, fun k hk => ?_, fun j hj => ?_, ho.below hb, ⟨by omega, by omega, by omega⟩, by omega, by omega, fun b o e => by have := hoa b o e; omega⟩, hb⟩
  · have q : ∀ j v, (slotC rt k)[j]? = some v → w3.cell? ⟨g1, k * 4 + j, none⟩ = some v := fun j v hv => hc _ _ _ ((h2.below.cell hl1).trans (h1.cells k hk j v hv))
    exact ⟨q 0 _ rfl, q 1 _ rfl, q 2 _ rfl, q 3 _ rfl⟩
  · exact hc _ _ _ (h2.cells k hk 0 _ rfl)
  · exact hc _ _ _ (h2.cells k hk 1 _ rfl)
  · exact hc _ _ _ (h2.cells k hk 2 _ rfl)
  · have hbk : w3.heap[w1.heap.size]? = w2.heap[w1.heap.size]? := h3.block _ hl2 (by simp)
    rw [World.cell?_of_block (w := w2) (a := ⟨w1.heap.size, 0 + j, none⟩) hbk, World.frozen?_of_block (w := w2) (a := ⟨w1.heap.size, 0 + j, none⟩) hbk]
    exact h2.there j hj

set_option maxRecDepth 10000 in
set_option maxHeartbeats 1000000 in
theorem new_some (b0 o0 k0 b1 o1 k1 b2 o2 k2 b3 o3 k3 n : Nat) (oa : Option Addr) (m oc : Nat) (delay start last : Int) (rt ag : Nat → Bool) (P pe of : Nat → Int) (w : World) (hn : n ≤ 4096)
    (l0 : b0 < w.heap.size) (l1 : b1 < w.heap.size) (l2 : b2 < w.heap.size) (l3 : b3 < w.heap.size)
    (r0 : ∀ i, i < n → w.cell? ⟨b0, o0 + i, none⟩ = some (.bool (rt i))) (r1 : ∀ i, i < n → w.cell? ⟨b1, o1 + i, none⟩ = some (.int .u8 (P i))) (r2 : ∀ i, i < n → w.cell? ⟨b2, o2 + i, none⟩ = some (.int .i64 (pe i))) (r3 : ∀ i, i < n → w.cell? ⟨b3, o3 + i, none⟩ = some (.bool (ag i)))
    (ho : Row w oa m (fun k => .int .i64 (of k))) (hoa : ∀ b o, oa = some ⟨b, o, none⟩ → b < w.heap.size) :
    Calls Try.prog 7 #[.slice (some ⟨b0, o0, none⟩) n k0, .slice (some ⟨b1, o1, none⟩) n k1, .slice (some ⟨b2, o2, none⟩) n k2, .slice (some ⟨b3, o3, none⟩) n k3, .slice oa m oc, .int .i64 delay, .int .i64 start, .int .i64 last] w (NewP n oa m oc delay start last rt ag P pe of w) := by
  obtain ⟨i0, hi, hz0, hz1, hz2⟩ := info_parts Try.info39
  have HI : Hid (Try.prog.info? 39 = some i0 ∧ i0.zero = some (.agg #[.int .u8 0, .bool false, .bool false, .bool false]) ∧ i0.size = 4 ∧ i0.bytes = 4) := ⟨hi, hz0, hz1, hz2⟩
  clear hi hz0 hz1 hz2
  obtain ⟨i1, hi, hz0, hz1, hz2⟩ := info_parts Try.info43
  have HJ : Hid (Try.prog.info? 43 = some i1 ∧ i1.zero = some (.agg #[.int .u8 0, .int .i64 0, .bool false]) ∧ i1.size = 3 ∧ i1.bytes = 24) := ⟨hi, hz0, hz1, hz2⟩
  clear hi hz0 hz1 hz2
  have H : Hid ((∀ i, i < n → w.cell? ⟨b0, o0 + i, none⟩ = some (.bool (rt i))) ∧ (∀ i, i < n → w.cell? ⟨b1, o1 + i, none⟩ = some (.int .u8 (P i))) ∧ (∀ i, i < n → w.cell? ⟨b2, o2 + i, none⟩ = some (.int .i64 (pe i))) ∧ (∀ i, i < n → w.cell? ⟨b3, o3 + i, none⟩ = some (.bool (ag i))) ∧ Row w oa m (fun k => .int .i64 (of k)) ∧ (∀ b o, oa = some ⟨b, o, none⟩ → b < w.heap.size)) := ⟨r0, r1, r2, r3, ho, hoa⟩
  clear r0 r1 r2 r3 ho hoa
  go_enter Try.func7, Try.ntmps7
  go_wp2_with (at_make; refine wpList_make_full _ rfl (.tmp 22) (.tmp 22) 36 rfl w.heap.size 39 i0 _ 4 Try.underlying36 HI.out.1 HI.out.2.1 HI.out.2.2.1 .i64 .i64 n n n rfl rfl rfl rfl (by rw [HI.out.2.2.2]; omega) (by unfold maxLen; omega) (Nat.le_refl _) ?_; intro w1 hown hgr)
  have H0 : Hid (Rowed w w1 w.heap.size n 0 4 (slotC rt)) := Rowed.start hown hgr
  clear hown hgr
  go_loopw [18] (fun v wr => ∃ k : Nat, k ≤ n ∧ v = .int .i64 k ∧ Hid (Rowed w wr w.heap.size n k 4 (slotC rt))) (fun v _ => n - (intOf v).toNat)
  case atStart => exact ⟨0, Nat.zero_le _, rfl, H0⟩
  case round =>
    obtain ⟨k, hk, rfl, hC⟩ := hrel
    clear H0 w1
    by_cases hlt : k < n
    · have hlt' : (k : Int) < (n : Int) := by omega
      have hk1 : (0 : Int) ≤ (k : Int) := by omega
      have hw : wr.cell? ⟨b0, o0 + k, none⟩ = some (.bool (rt k)) := (hC.out.below.cell l0).trans (H.out.1 k hlt)
      have hth := hC.out.there
      obtain ⟨v0, e0⟩ := Option.isSome_iff_exists.1 (hth (k * 4) (by omega)).1
      obtain ⟨v1, e1⟩ := Option.isSome_iff_exists.1 (hth (k * 4 + 1) (by omega)).1
      obtain ⟨v2, e2⟩ := Option.isSome_iff_exists.1 (hth (k * 4 + 2) (by omega)).1
      obtain ⟨v3, e3⟩ := Option.isSome_iff_exists.1 (hth (k * 4 + 3) (by omega)).1
      have f0 := (hth (k * 4) (by omega)).2
      have f1 := (hth (k * 4 + 1) (by omega)).2
      have f2 := (hth (k * 4 + 2) (by omega)).2
      have f3 := (hth (k * 4 + 3) (by omega)).2
      simp only [Nat.zero_add] at e0 e1 e2 e3 f0 f1 f2 f3
      clear hth
      have hfin : Hid (Rowed w (wr.setCells w.heap.size (k * 4) (slotC rt k)) w.heap.size n (k + 1) 4 (slotC rt)) := hC.out.store hlt (fun _ => rfl)
      go_wp2
      go_roundw
      case rel => exact ⟨k + 1, by omega, by go_num, hfin⟩
      case measure => simp [intOf]; omega
    · obtain rfl : k = n := by omega
      go_wp2_with (at_make; refine wpList_make_full _ rfl (.tmp 39) (.tmp 39) 40 rfl wr.heap.size 43 i1 _ 3 Try.underlying40 HJ.out.1 HJ.out.2.1 HJ.out.2.2.1 .i64 .i64 k k k rfl rfl rfl rfl (by rw [HJ.out.2.2.2]; omega) (by unfold maxLen; omega) (Nat.le_refl _) ?_; intro w2 hown hgr)
      have H2 : Hid (Rowed wr w2 wr.heap.size k 0 3 (stateC P pe ag)) := Rowed.start hown hgr
      clear hown hgr
      obtain ⟨wm, hwm⟩ : ∃ x, x = wr := ⟨_, rfl⟩
      subst hwm
      go_loopw [20] (fun v wr => ∃ j : Nat, j ≤ k ∧ v = .int .i64 j ∧ Hid (Rowed wm wr wm.heap.size k j 3 (stateC P pe ag))) (fun v _ => k - (intOf v).toNat)
      case atStart => exact ⟨0, Nat.zero_le _, rfl, H2⟩
      case round =>
        obtain ⟨j, hj, rfl, hD⟩ := hrel
        clear H2 w2
        by_cases hlt : j < k
        · have hlt' : (j : Int) < (k : Int) := by omega
          have hk1 : (0 : Int) ≤ (j : Int) := by omega
          have hBB : Below w.heap.size w wr := hC.out.below.trans (hD.out.below.mono hC.out.below.size)
          have q1 : wr.cell? ⟨b1, o1 + j, none⟩ = some (.int .u8 (P j)) := (hBB.cell l1).trans (H.out.2.1 j hlt)
          have q2 : wr.cell? ⟨b2, o2 + j, none⟩ = some (.int .i64 (pe j)) := (hBB.cell l2).trans (H.out.2.2.1 j hlt)
          have q3 : wr.cell? ⟨b3, o3 + j, none⟩ = some (.bool (ag j)) := (hBB.cell l3).trans (H.out.2.2.2.1 j hlt)
          have hsz := hC.out.below.size
          have hth := hD.out.there
          obtain ⟨v0, e0⟩ := Option.isSome_iff_exists.1 (hth (j * 3) (by omega)).1
          obtain ⟨v1, e1⟩ := Option.isSome_iff_exists.1 (hth (j * 3 + 1) (by omega)).1
          obtain ⟨v2, e2⟩ := Option.isSome_iff_exists.1 (hth (j * 3 + 2) (by omega)).1
          have f0 := (hth (j * 3) (by omega)).2
          have f1 := (hth (j * 3 + 1) (by omega)).2
          have f2 := (hth (j * 3 + 2) (by omega)).2
          simp only [Nat.zero_add] at e0 e1 e2 f0 f1 f2
          clear hth hBB
          have hob1 : ∀ (W : World) (o o' : Nat) (v : Value), (W.setCell ⟨wm.heap.size, o', none⟩ v).cell? ⟨b1, o, none⟩ = W.cell? ⟨b1, o, none⟩ := fun W o o' v => World.cell?_setCell_other _ _ _ _ (fun e => by injection e with e1; omega)
          have hob2 : ∀ (W : World) (o o' : Nat) (v : Value), (W.setCell ⟨wm.heap.size, o', none⟩ v).cell? ⟨b2, o, none⟩ = W.cell? ⟨b2, o, none⟩ := fun W o o' v => World.cell?_setCell_other _ _ _ _ (fun e => by injection e with e1; omega)
          have hob3 : ∀ (W : World) (o o' : Nat) (v : Value), (W.setCell ⟨wm.heap.size, o', none⟩ v).cell? ⟨b3, o, none⟩ = W.cell? ⟨b3, o, none⟩ := fun W o o' v => World.cell?_setCell_other _ _ _ _ (fun e => by injection e with e1; omega)
          have hfin : Hid (Rowed wm (wr.setCells wm.heap.size (j * 3) (stateC P pe ag j)) wm.heap.size k (j + 1) 3 (stateC P pe ag)) := hD.out.store hlt (fun _ => rfl)
          go_upto_region 10 with fail
          go_region_held3 (fun w' => w'.cell? ⟨b1, o1 + j, none⟩ = some (.int .u8 (P j)) ∧ w'.cell? ⟨b2, o2 + j, none⟩ = some (.int .i64 (pe j)) ∧ w'.cell? ⟨b3, o3 + j, none⟩ = some (.bool (ag j))) (go_keep) (fail)
          clear e0 e1 e2 f0 f1 f2 hob1 hob2 hob3
          go_wp2
          go_roundw
          case rel => exact ⟨j + 1, by omega, by go_num, hfin.out.drew⟩
          case measure => simp [intOf]; omega
        · obtain rfl : j = k := by omega
          go_wp2
          go_ret
          exact new_done hC.out hD.out H.out.2.2.2.2.1 H.out.2.2.2.2.2 (World.grownBy_alloc _ _ _) (by simp) (World.cell?_alloc_new _ _ _ _) (World.cell?_alloc_new _ _ _ _) (World.cell?_alloc_new _ _ _ _) (World.cell?_alloc_new _ _ _ _) (World.cell?_alloc_new _ _ _ _) (World.cell?_alloc_new _ _ _ _)

set_option maxRecDepth 10000 in
set_option maxHeartbeats 1000000 in
theorem new_none (a0 a1 a2 a3 : Option Addr) (k0 k1 k2 k3 : Nat) (oa : Option Addr) (m oc : Nat) (delay start last : Int) (rt ag : Nat → Bool) (P pe of : Nat → Int) (w : World)
    (ho : Row w oa m (fun k => .int .i64 (of k))) (hoa : ∀ b o, oa = some ⟨b, o, none⟩ → b < w.heap.size) :
    Calls Try.prog 7 #[.slice a0 0 k0, .slice a1 0 k1, .slice a2 0 k2, .slice a3 0 k3, .slice oa m oc, .int .i64 delay, .int .i64 start, .int .i64 last] w (NewP 0 oa m oc delay start last rt ag P pe of w) := by
  obtain ⟨i0, hi, hz0, hz1, hz2⟩ := info_parts Try.info39
  have HI : Hid (Try.prog.info? 39 = some i0 ∧ i0.zero = some (.agg #[.int .u8 0, .bool false, .bool false, .bool false]) ∧ i0.size = 4 ∧ i0.bytes = 4) := ⟨hi, hz0, hz1, hz2⟩
  clear hi hz0 hz1 hz2
  obtain ⟨i1, hi, hz0, hz1, hz2⟩ := info_parts Try.info43
  have HJ : Hid (Try.prog.info? 43 = some i1 ∧ i1.zero = some (.agg #[.int .u8 0, .int .i64 0, .bool false]) ∧ i1.size = 3 ∧ i1.bytes = 24) := ⟨hi, hz0, hz1, hz2⟩
  clear hi hz0 hz1 hz2
  have H : Hid (Row w oa m (fun k => .int .i64 (of k)) ∧ (∀ b o, oa = some ⟨b, o, none⟩ → b < w.heap.size)) := ⟨ho, hoa⟩
  clear ho hoa
  go_enter Try.func7, Try.ntmps7
  go_wp2_with (at_make; refine wpList_make_full _ rfl (.tmp 22) (.tmp 22) 36 rfl w.heap.size 39 i0 _ 4 Try.underlying36 HI.out.1 HI.out.2.1 HI.out.2.2.1 .i64 .i64 0 0 0 rfl rfl rfl rfl (by omega) (by unfold maxLen; omega) (Nat.le_refl _) ?_; intro w1 hown hgr)
  have hC : Hid (Rowed w w1 w.heap.size 0 0 4 (slotC rt)) := Rowed.start hown hgr
  clear hown hgr
  refine wp_loop_rounds 1 ?_
  rw [rounds_succ]
  go_wp2_with (at_make; refine wpList_make_full _ rfl (.tmp 39) (.tmp 39) 40 rfl w1.heap.size 43 i1 _ 3 Try.underlying40 HJ.out.1 HJ.out.2.1 HJ.out.2.2.1 .i64 .i64 0 0 0 rfl rfl rfl rfl (by omega) (by unfold maxLen; omega) (Nat.le_refl _) ?_; intro w2 hown hgr)
  have hD : Hid (Rowed w1 w2 w1.heap.size 0 0 3 (stateC P pe ag)) := Rowed.start hown hgr
  clear hown hgr
  refine wp_loop_rounds 1 ?_
  rw [rounds_succ]
  go_wp2
  go_ret
  exact new_done hC.out hD.out H.out.1 H.out.2 (World.grownBy_alloc _ _ _) (by simp) (World.cell?_alloc_new _ _ _ _) (World.cell?_alloc_new _ _ _ _) (World.cell?_alloc_new _ _ _ _) (World.cell?_alloc_new _ _ _ _) (World.cell?_alloc_new _ _ _ _) (World.cell?_alloc_new _ _ _ _)

/-- ████ ZZNewSpread. -/
theorem new_any (a0 a1 a2 a3 : Option Addr) (k0 k1 k2 k3 n : Nat) (oa : Option Addr) (m oc : Nat) (delay start last : Int) (rt ag : Nat → Bool) (P pe of : Nat → Int) (w : World) (hn : n ≤ 4096)
    (r0 : Row w a0 n (fun i => .bool (rt i))) (r1 : Row w a1 n (fun i => .int .u8 (P i))) (r2 : Row w a2 n (fun i => .int .i64 (pe i))) (r3 : Row w a3 n (fun i => .bool (ag i)))
    (ho : Row w oa m (fun k => .int .i64 (of k))) (hoa : ∀ b o, oa = some ⟨b, o, none⟩ → b < w.heap.size) :
    Calls Try.prog 7 #[.slice a0 n k0, .slice a1 n k1, .slice a2 n k2, .slice a3 n k3, .slice oa m oc, .int .i64 delay, .int .i64 start, .int .i64 last] w (NewP n oa m oc delay start last rt ag P pe of w) := by
  by_cases h0 : n = 0
  · subst h0; exact new_none a0 a1 a2 a3 k0 k1 k2 k3 oa m oc delay start last rt ag P pe of w ho hoa
  · obtain ⟨b0, o0, rfl, l0, c0⟩ := r0 (by omega)
    obtain ⟨b1, o1, rfl, l1, c1⟩ := r1 (by omega)
    obtain ⟨b2, o2, rfl, l2, c2⟩ := r2 (by omega)
    obtain ⟨b3, o3, rfl, l3, c3⟩ := r3 (by omega)
    exact new_some b0 o0 k0 b1 o1 k1 b2 o2 k2 b3 o3 k3 n oa m oc delay start last rt ag P pe of w hn l0 l1 l2 l3 c0 c1 c2 c3 ho hoa
end Go.Proofs.Qxb6630523a
