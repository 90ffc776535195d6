/-
  Seat b6629285a. THE WALKS of zzBruteBest (7) and FnWindowAddMatchesBruteForce (3).
-/
import Derived.Test.Qxb6629285aState
import Derived.Deep.RegionHeld3
import Derived.Deep.DrawnRows
namespace Go.Proofs.Qxb6629285a
open Go.RowKit
attribute [local go_sem ↓] Go.wp_at_zero Go.wp_at_succ

/-- Best among the step's own count and the first m earlier steps of the window. -/
def BestTo (lg : Bool) (len : Int) (At Ct : Nat → Int) (k m : Nat) (b : Int) : Prop :=
  (b = Ct k ∨ ∃ j, j < m ∧ At k - len < At j ∧ b = Ct j) ∧ (∀ j, j < m → At k - len < At j → ¬ Pl.Beats lg (Ct j) b) ∧ ¬ Pl.Beats lg (Ct k) b

theorem BestTo.start (lg : Bool) (len : Int) (At Ct : Nat → Int) (k : Nat) : BestTo lg len At Ct k 0 (Ct k) :=
  ⟨Or.inl rfl, fun j h => absurd h (by omega), Pl.notBeats_self _ _⟩
theorem BestTo.out {lg : Bool} {len : Int} {At Ct : Nat → Int} {k m : Nat} {b : Int} (h : BestTo lg len At Ct k m b) (ho : ¬ At k - len < At m) : BestTo lg len At Ct k (m + 1) b := by
  refine ⟨?_, fun j hj hw => ?_, h.2.2⟩
  · rcases h.1 with h1 | ⟨j, h1, h2⟩
    · exact Or.inl h1
    · exact Or.inr ⟨j, by omega, h2⟩
  · by_cases e : j = m
    · subst e; exact absurd hw ho
    · exact h.2.1 j (by omega) hw
theorem BestTo.stay {lg : Bool} {len : Int} {At Ct : Nat → Int} {k m : Nat} {b : Int} (h : BestTo lg len At Ct k m b) (ho : ¬ Pl.Beats lg (Ct m) b) : BestTo lg len At Ct k (m + 1) b := by
  refine ⟨?_, fun j hj hw => ?_, h.2.2⟩
  · rcases h.1 with h1 | ⟨j, h1, h2⟩
    · exact Or.inl h1
    · exact Or.inr ⟨j, by omega, h2⟩
  · by_cases e : j = m
    · subst e; exact ho
    · exact h.2.1 j (by omega) hw
theorem BestTo.take {lg : Bool} {len : Int} {At Ct : Nat → Int} {k m : Nat} {b : Int} (h : BestTo lg len At Ct k m b) (hw : At k - len < At m) (hb : Pl.Beats lg (Ct m) b) : BestTo lg len At Ct k (m + 1) (Ct m) := by
  refine ⟨Or.inr ⟨m, by omega, hw, rfl⟩, fun j hj hwj => ?_, Pl.notBeats_of_beats h.2.2 hb⟩
  by_cases e : j = m
  · subst e; exact Pl.notBeats_self _ _
  · exact Pl.notBeats_of_beats (h.2.1 j (by omega) hwj) hb
/-- Two best counts are one. -/
theorem BestTo.only {lg : Bool} {len : Int} {At Ct : Nat → Int} {k : Nat} {b hi : Int} (h : BestTo lg len At Ct k k b) (g : Best lg len At Ct k hi) : b = hi := by
  obtain ⟨⟨j, hj, hw, rfl⟩, ha⟩ := g
  have h1 : ¬ Pl.Beats lg (Ct j) b := by
    by_cases e : j = k
    · subst e; exact h.2.2
    · exact h.2.1 j (by omega) (by rcases hw with h | h; exact absurd h e; exact h)
  have h2 : ¬ Pl.Beats lg b (Ct j) := by
    rcases h.1 with h1 | ⟨j', hj', hw', rfl⟩
    · rw [h1]; exact ha k (Nat.le_refl _) (Or.inl rfl)
    · exact ha j' (by omega) (Or.inr hw')
  unfold Pl.Beats at h1 h2
  cases lg <;> simp at h1 h2 <;> omega

set_option maxRecDepth 10000 in
set_option maxHeartbeats 800000 in
theorem brute_any (len : Int) (lg : Bool) (sb so N cap k : Nat) (At Ct : Nat → Int) (hi : Int) (w : World)
    (hl1 : -4611686018427387904 ≤ len) (hl2 : len ≤ 4611686018427387904) (ha1 : -2305843009213693952 ≤ At k) (ha2 : At k ≤ 2305843009213693952)
    (hA : ∀ i, i < N → w.cell? ⟨sb, so + i * 2, none⟩ = some (.int .i64 (At i)))
    (hC : ∀ i, i < N → w.cell? ⟨sb, so + i * 2 + 1, none⟩ = some (.int .i64 (Ct i)))
    (hk : k < N) (hN : N ≤ 4096) (hb : Best lg len At Ct k hi) :
    Calls Try.prog 7 #[.slice (some ⟨sb, so, none⟩) N cap, .int .i64 k, .int .i64 len, .bool lg] w fun e w' => e = .returned (.int .i64 hi) ∧ w = w' := by
  have HA : Hid (∀ i, i < N → w.cell? ⟨sb, so + i * 2, none⟩ = some (.int .i64 (At i))) := hA
  have HC : Hid (∀ i, i < N → w.cell? ⟨sb, so + i * 2 + 1, none⟩ = some (.int .i64 (Ct i))) := hC
  have HB : Hid (Best lg len At Ct k hi) := hb
  have cA := hA k hk
  have cC := hC k hk
  have hk' : (k : Int) < (N : Int) := by omega
  clear hA hC hb
  go_enter Try.func7, Try.ntmps7
  go_wp2
  go_loop [9, 11] (fun b j => ∃ (m : Nat) (bv : Int), m ≤ k ∧ j = .int .i64 m ∧ b = .int .i64 bv ∧ Hid (BestTo lg len At Ct k m bv)) (fun _ j => k - (intOf j).toNat)
  case atStart => exact ⟨0, Ct k, Nat.zero_le _, rfl, rfl, BestTo.start ..⟩
  case round =>
    obtain ⟨m, bv, hm, rfl, rfl, hT⟩ := hrel
    by_cases hmk : m < k
    · have mA := HA.out m (by omega)
      have mC := HC.out m (by omega)
      have hmN : (m : Int) < (N : Int) := by omega
      by_cases hw : At k - len < At m
      · cases lg
        · by_cases hbt : Ct m < bv
          · go_wp2
            go_round
            case rel => exact ⟨m + 1, Ct m, by omega, by go_num, rfl, hT.out.take hw (Or.inr ⟨rfl, hbt⟩)⟩
            case measure => simp [intOf]; omega
          · go_wp2
            go_round
            case rel => exact ⟨m + 1, bv, by omega, by go_num, rfl, hT.out.stay (by simp [Pl.Beats]; omega)⟩
            case measure => simp [intOf]; omega
        · by_cases hbt : bv < Ct m
          · go_wp2
            go_round
            case rel => exact ⟨m + 1, Ct m, by omega, by go_num, rfl, hT.out.take hw (Or.inl ⟨rfl, hbt⟩)⟩
            case measure => simp [intOf]; omega
          · go_wp2
            go_round
            case rel => exact ⟨m + 1, bv, by omega, by go_num, rfl, hT.out.stay (by simp [Pl.Beats]; omega)⟩
            case measure => simp [intOf]; omega
      · go_wp2
        go_round
        case rel => exact ⟨m + 1, bv, by omega, by go_num, rfl, hT.out.out hw⟩
        case measure => simp [intOf]; omega
    · go_wp2
      go_ret
      obtain rfl : m = k := by omega
      exact ⟨by rw [← hT.out.only HB.out]; rfl, rfl⟩

/-- The script's bounds, as the law's first loop leaves them. -/
def Seen2 (At : Nat → Int) (k : Nat) : Prop := ∀ j, j < k → (-2305843009213693952 ≤ At j ∧ At j ≤ 2305843009213693952) ∧ (0 < j → At (j - 1) ≤ At j)
theorem Seen2.step {At : Nat → Int} {k : Nat} (h : Seen2 At k) (h1 : -2305843009213693952 ≤ At k ∧ At k ≤ 2305843009213693952) (h2 : 0 < k → At (k - 1) ≤ At k) : Seen2 At (k + 1) := fun j hj => by
  by_cases e : j = k
  · subst e; exact ⟨h1, h2⟩
  · exact h j (by omega)

/-- One window behind k rounds. -/
def One (w wr : World) (len : Int) (lg : Bool) (At Ct : Nat → Int) (k : Nat) : Prop :=
  ∃ g n T C, Pl.Inv lg len At Ct k n T C ∧ Win wr w.heap.size g len lg n T C ∧ (∀ b, g = some b → w.heap.size ≤ b) ∧ Below w.heap.size w wr
theorem One.below {w wr : World} {len : Int} {lg : Bool} {At Ct : Nat → Int} {k : Nat} (h : One w wr len lg At Ct k) : Below w.heap.size w wr := by
  obtain ⟨g, n, T, C, _, _, _, h⟩ := h; exact h
theorem One.drew {w wr : World} {len : Int} {lg : Bool} {At Ct : Nat → Int} {k : Nat} (h : One w wr len lg At Ct k) : One w wr.drew len lg At Ct k := by
  obtain ⟨g, n, T, C, h1, h2, h3, h4⟩ := h; exact ⟨g, n, T, C, h1, h2.drew, h3, h4.drew⟩

theorem frozen_blk {w : World} {b o : Nat} {cs : Array Value} {t : TypeId} (h : w.heap[b]? = some (.cells cs t)) : w.frozen? ⟨b, o, none⟩ = false := by
  simp [World.frozen?, h]
theorem bdrew2 (w : World) (q : Nat) : Below w.heap.size w (w.drewN q) := ⟨rfl, rfl, rfl, Nat.le_refl _, fun _ _ => rfl⟩

theorem one_start {w : World} {len : Int} {lg : Bool} {At Ct : Nat → Int} (q : Nat) :
    One w ((w.drewN q).alloc (.cells #[.int .i64 len, .bool lg, .slice none 0 0] 30)) len lg At Ct 0 := by
  have e1 : ((w.drewN q).alloc (.cells #[.int .i64 len, .bool lg, .slice none 0 0] 30)).heap[w.heap.size]? = some (.cells #[.int .i64 len, .bool lg, .slice none 0 0] 30) := heap_alloc_new (w.drewN q) _
  refine ⟨none, 0, fun _ => 0, fun _ => 0, Pl.Inv.start .., ⟨?_, ?_, ⟨.slice none 0 0, ?_, fun _ => ⟨rfl, rfl⟩, fun b hb => by simp at hb⟩, ?_⟩, fun b hb => by simp at hb, ?_⟩
  · rw [cell_of_row _ _ _ _ _ _ e1]; rfl
  · rw [cell_of_row _ _ _ _ _ _ e1]; rfl
  · rw [cell_of_row _ _ _ _ _ _ e1]; rfl
  · exact frozen_blk e1
  · exact Below.alloc (⟨rfl, rfl, rfl, Nat.le_refl _, fun _ _ => rfl⟩ : Below w.heap.size w (w.drewN q)) (Nat.le_refl _) _

theorem add_one {w : World} {len : Int} {lg : Bool} {At Ct : Nat → Int} {N k : Nat} (hl1 : -4611686018427387904 ≤ len) (hl2 : len ≤ 4611686018427387904) (hN : N ≤ 4096) (S : Seen2 At N) (hk : k < N) (wr : World) (h : One w wr len lg At Ct k) :
    Calls Try.prog 6 #[.pointer (some ⟨w.heap.size, 0, none⟩), .int .i64 (At k), .int .i64 (Ct k)] wr fun e w' => ∃ hi, e = .returned (.int .i64 hi) ∧ Best lg len At Ct k hi ∧ One w w' len lg At Ct (k + 1) := by
  obtain ⟨g, n, T, C, h1, h2, h3, h4⟩ := h
  have hat := (S k hk).1
  have hfew := h1.few
  refine (add_any w.heap.size g len (At k) (Ct k) lg n T C wr h2 (by omega) hl1 hl2 hat.1 hat.2).mono ?_
  rintro e w' ⟨k', m', rfl, hadd, b', hb', hwin, hkept⟩
  have hm := mono_all (fun j h0 hj => (S j hj).2 h0) k hk
  have hsz := h4.size
  refine ⟨_, rfl, h1.answer hm hadd, some b', m' + 1, _, _, h1.step hm hadd, hwin, ?_, h4.trans (hkept.below (by omega) (Nat.le_refl _) h3)⟩
  intro b hb
  obtain rfl : b' = b := by simpa using hb
  rcases hb' with hb' | hb'
  · exact h3 b' hb'
  · omega

set_option maxRecDepth 10000 in
set_option maxHeartbeats 1000000 in
theorem bf_main (len : Int) (lg : Bool) (sb so N cap : Nat) (At Ct : Nat → Int) (w : World)
    (hl1 : -4611686018427387904 ≤ len) (hl2 : len ≤ 4611686018427387904)
    (hA : ∀ i, i < N → w.cell? ⟨sb, so + i * 2, none⟩ = some (.int .i64 (At i)))
    (hC : ∀ i, i < N → w.cell? ⟨sb, so + i * 2 + 1, none⟩ = some (.int .i64 (Ct i)))
    (hsb : sb < w.heap.size) (hN : N ≤ 4096) :
    Calls Try.prog 3 #[.int .i64 len, .bool lg, .slice (some ⟨sb, so, none⟩) N cap] w fun e w' => e = .returned (.bool true) ∧ Below w.heap.size w w' := by
  have HA : Hid (∀ i, i < N → w.cell? ⟨sb, so + i * 2, none⟩ = some (.int .i64 (At i))) := hA
  have HC' : Hid (∀ i, i < N → w.cell? ⟨sb, so + i * 2 + 1, none⟩ = some (.int .i64 (Ct i))) := hC
  clear hA hC
  go_enter Try.func3, Try.ntmps3
  go_wp2_with (go_at_call 5; refine (bytes5_any _ _ _ _ _ _ (by omega)).mono ?_; rintro e w' ⟨rfl, rfl⟩)
  go_loopw [7] (fun i wr => ∃ k q : Nat, k ≤ N ∧ i = .int .i64 k ∧ wr = w.drewN q ∧ Hid (Seen2 At k)) (fun i _ => N - (intOf i).toNat)
  case atStart => exact ⟨0, 0, Nat.zero_le _, rfl, rfl, fun j h => absurd h (by omega)⟩
  case round =>
    obtain ⟨k, q, hk, rfl, rfl, hS⟩ := hrel
    by_cases hlt : k < N
    · have hlt' : (k : Int) < (N : Int) := by omega
      have hcA := HA.out k hlt
      by_cases ha1 : At k < -2305843009213693952
      · go_wp2
        go_ret
        exact ⟨rfl, bdrew2 _ _⟩
      by_cases ha2 : 2305843009213693952 < At k
      · go_wp2
        go_ret
        exact ⟨rfl, bdrew2 _ _⟩
      by_cases hk0 : k = 0
      · subst hk0
        have hdec : decide ((0 : Int) < ((0 : Nat) : Int)) = false := rfl
        simp only [Nat.zero_mul, Nat.add_zero] at hcA
        go_wp2_with fail
        go_quiet (fail)
        go_wp2
        go_roundw
        case rel => exact ⟨1, q + nq, by omega, by go_num, rfl, hS.out.step (by omega) (by omega)⟩
        case measure => simp [intOf]; omega
      · obtain ⟨k', rfl⟩ : ∃ k', k = k' + 1 := ⟨k - 1, by omega⟩
        have hcA' := HA.out k' (by omega)
        have hpos : (0 : Int) < ((k' + 1 : Nat) : Int) := by omega
        go_wp2_with fail
        go_quiet (fail)
        by_cases hle : At (k' + 1) < At k'
        · go_wp2
          go_ret
          exact ⟨rfl, by first | exact bdrew2 _ _ | (rw [World.drewN_drewN]; exact bdrew2 _ _)⟩
        · go_wp2
          go_roundw
          case rel => exact ⟨k' + 2, q + nq, by omega, by go_num, by first | rfl | rw [World.drewN_drewN], hS.out.step (by omega) (fun _ => by simpa using by omega)⟩
          case measure => simp [intOf]; omega
    · have hW : Hid (One w ((w.drewN q).alloc (.cells #[.int .i64 len, .bool lg, .slice none 0 0] 30)) len lg At Ct 0) := one_start q
      have hkN : k = N := by omega
      have hScr : Hid (Seen2 At N) := by rw [hkN] at hS; exact hS
      clear hkN
      go_wp2
      go_loopw [9] (fun i wr => ∃ k : Nat, k ≤ N ∧ i = .int .i64 k ∧ Hid (One w wr len lg At Ct k)) (fun i _ => N - (intOf i).toNat)
      case atStart => exact ⟨0, Nat.zero_le _, rfl, hW⟩
      case round =>
        clear hlt hW hk hS
        obtain ⟨k, hk, rfl, hB⟩ := hrel
        by_cases hlt : k < N
        · have hlt' : (k : Int) < (N : Int) := by omega
          have cA : wr.cell? ⟨sb, so + k * 2, none⟩ = some (.int .i64 (At k)) := (hB.out.below.cell hsb).trans (HA.out k hlt)
          have cC : wr.cell? ⟨sb, so + k * 2 + 1, none⟩ = some (.int .i64 (Ct k)) := (hB.out.below.cell hsb).trans (HC'.out k hlt)
          have hk1 : (0 : Int) ≤ (k : Int) := by omega
          go_upto_region 18 with fail
          go_cut [10] (fun v wc => ∃ hi : Int, v = .int .i64 hi ∧ Hid (Best lg len At Ct k hi) ∧ Hid (One w wc len lg At Ct (k + 1)))
          case first =>
            go_region_held3 (fun w' => w'.cell? ⟨sb, so + k * 2, none⟩ = some (.int .i64 (At k)) ∧ w'.cell? ⟨sb, so + k * 2 + 1, none⟩ = some (.int .i64 (Ct k))) (go_keep)
              ((go_at_call 6; refine (add_one hl1 hl2 hN hScr.out hlt _ hB.out.drew).mono ?_; rintro e w' ⟨hi, rfl, hH, hO⟩; have q1 := (hO.below.cell (p := ⟨sb, so + k * 2, none⟩) hsb).trans (HA.out k hlt); have q2 := (hO.below.cell (p := ⟨sb, so + k * 2 + 1, none⟩) hsb).trans (HC'.out k hlt)))
            go_wp2_with fail
            go_meet
            case rel => exact ⟨hi, rfl, hH, hO⟩
          case rest =>
            clear cA cC hB
            obtain ⟨hi, rfl, hH, hO⟩ := hcut
            have hb1 := (hScr.out k hlt).1
            go_wp2_with (go_at_call 7; refine (brute_any len lg sb so N cap k At Ct hi _ hl1 hl2 hb1.1 hb1.2 (fun i hi => (hO.out.below.cell hsb).trans (HA.out i hi)) (fun i hi => (hO.out.below.cell hsb).trans (HC'.out i hi)) hlt hN hH.out).mono ?_; rintro e w' ⟨rfl, rfl⟩)
            go_roundw
            case rel => exact ⟨k + 1, by omega, by go_num, hO⟩
            case measure => simp [intOf]; omega
        · go_wp2
          go_ret
          exact ⟨rfl, hB.out.below⟩

set_option maxRecDepth 10000 in
set_option maxHeartbeats 400000 in
/-- No step at all. -/
theorem bf_none (len : Int) (lg : Bool) (ao : Option Addr) (cap : Nat) (w : World)
    (hl1 : -4611686018427387904 ≤ len) (hl2 : len ≤ 4611686018427387904) :
    Calls Try.prog 3 #[.int .i64 len, .bool lg, .slice ao 0 cap] w fun e w' => e = .returned (.bool true) ∧ Below w.heap.size w w' := by
  go_enter Try.func3, Try.ntmps3
  go_wp2_with (go_at_call 5; refine (bytes5_any _ _ _ _ _ _ (by omega)).mono ?_; rintro e w' ⟨rfl, rfl⟩)
  refine wp_loop_rounds 1 ?_
  rw [rounds_succ]
  go_wp2
  refine wp_loop_rounds 1 ?_
  rw [rounds_succ]
  go_wp2
  go_ret
  exact ⟨rfl, (Below.refl _ _).alloc (Nat.le_refl _) _⟩

set_option maxRecDepth 10000 in
set_option maxHeartbeats 1000000 in
/-- The law's early ways out. -/
theorem bf_early (len : Int) (lg : Bool) (ao : Option Addr) (N cap : Nat) (w : World) (hN : N ≤ 9223372036854775807)
    (h : 4096 < N ∨ len < -4611686018427387904 ∨ 4611686018427387904 < len) :
    Calls Try.prog 3 #[.int .i64 len, .bool lg, .slice ao N cap] w fun e w' => e = .returned (.bool true) ∧ Below w.heap.size w w' := by
  by_cases h1 : N ≤ 1048576
  · by_cases h2 : N ≤ 4096
    · by_cases h3 : len < -4611686018427387904
      · go_enter Try.func3, Try.ntmps3
        go_wp2_with (go_at_call 5; refine (bytes5_any _ _ _ _ _ _ h1).mono ?_; rintro e w' ⟨rfl, rfl⟩)
        go_ret
        exact ⟨rfl, Below.refl _ _⟩
      have h4 : 4611686018427387904 < len := by omega
      go_enter Try.func3, Try.ntmps3
      go_wp2_with (go_at_call 5; refine (bytes5_any _ _ _ _ _ _ h1).mono ?_; rintro e w' ⟨rfl, rfl⟩)
      go_ret
      exact ⟨rfl, Below.refl _ _⟩
    · go_enter Try.func3, Try.ntmps3
      go_wp2_with (go_at_call 5; refine (bytes5_any _ _ _ _ _ _ h1).mono ?_; rintro e w' ⟨rfl, rfl⟩)
      go_ret
      exact ⟨rfl, Below.refl _ _⟩
  · go_enter Try.func3, Try.ntmps3
    go_wp2_with (go_at_call 5; refine (bytes5_big _ _ _ _ _ _ h1).mono ?_; rintro e w' ⟨rfl, rfl⟩)
    go_ret
    exact ⟨rfl, Below.refl _ _⟩

/-- ████ FnWindowAddMatchesBruteForce: whatever the script. -/
theorem bf_any (len : Int) (lg : Bool) (ao : Option Addr) (N cap : Nat) (At Ct : Nat → Int) (w : World)
    (hao : 0 < N → ∃ sb so, ao = some ⟨sb, so, none⟩ ∧ sb < w.heap.size ∧ (∀ i, i < N → w.cell? ⟨sb, so + i * 2, none⟩ = some (.int .i64 (At i))) ∧ (∀ i, i < N → w.cell? ⟨sb, so + i * 2 + 1, none⟩ = some (.int .i64 (Ct i))))
    (hN : N ≤ 9223372036854775807) :
    Calls Try.prog 3 #[.int .i64 len, .bool lg, .slice ao N cap] w fun e w' => e = .returned (.bool true) ∧ Below w.heap.size w w' := by
  by_cases h : 4096 < N ∨ len < -4611686018427387904 ∨ 4611686018427387904 < len
  · exact bf_early len lg ao N cap w hN h
  · by_cases h0 : N = 0
    · subst h0; exact bf_none len lg ao cap w (by omega) (by omega)
    · obtain ⟨sb, so, rfl, hsb, hA, hC⟩ := hao (by omega)
      exact bf_main len lg sb so N cap At Ct w (by omega) (by omega) hA hC hsb (by omega)

end Go.Proofs.Qxb6629285a
