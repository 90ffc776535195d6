/-
  Seat b6629285a. THE WALK of FnWindowAddModesMirrorAndShift (4).
-/
import Derived.Test.Qxb6629285aState
import Derived.Deep.RegionHeld3
import Derived.Deep.DrawnRows
namespace Go.Proofs.Qxb6629285a
open Go.RowKit
attribute [local go_sem ↓] Go.wp_at_zero Go.wp_at_succ

/-- What the first loop has seen of the first k steps. -/
def Seen (At Ct : Nat → Int) (k : Nat) : Prop := ∀ j, j < k → (-1152921504606846976 ≤ At j ∧ At j ≤ 1152921504606846976) ∧ (0 < j → At (j - 1) ≤ At j) ∧ -9223372036854775807 ≤ Ct j

theorem bdrew (w : World) (q : Nat) : Below w.heap.size w (w.drewN q) := ⟨rfl, rfl, rfl, Nat.le_refl _, fun _ _ => rfl⟩

theorem Seen.step {At Ct : Nat → Int} {k : Nat} (h : Seen At Ct k) (h1 : -1152921504606846976 ≤ At k ∧ At k ≤ 1152921504606846976) (h2 : 0 < k → At (k - 1) ≤ At k) (h3 : -9223372036854775807 ≤ Ct k) : Seen At Ct (k + 1) := fun j hj => by
  by_cases e : j = k
  · subst e; exact ⟨h1, h2, h3⟩
  · exact h j (by omega)

theorem wrap_same {x : Int} (h1 : -9223372036854775808 ≤ x) (h2 : x ≤ 9223372036854775807) : IntKind.i64.wrap x = x := by
  rw [IntKind.wrap_i64]; omega

theorem Found.skip {At Ct : Nat → Int} {len hi : Int} {k m : Nat} {fb : Bool} (h : fb = true ↔ ∃ j', j' < m ∧ (j' = k ∨ At k - len < At j') ∧ Ct j' = hi) (hn : ¬ (m = k ∨ At k - len < At m)) :
    fb = true ↔ ∃ j', j' < m + 1 ∧ (j' = k ∨ At k - len < At j') ∧ Ct j' = hi := by
  rw [h]
  constructor
  · rintro ⟨j, h1, h2⟩; exact ⟨j, by omega, h2⟩
  · rintro ⟨j, h1, h2, h3⟩
    by_cases e : j = m
    · subst e; exact absurd h2 hn
    · exact ⟨j, by omega, h2, h3⟩
theorem Found.miss {At Ct : Nat → Int} {len hi : Int} {k m : Nat} {fb : Bool} (h : fb = true ↔ ∃ j', j' < m ∧ (j' = k ∨ At k - len < At j') ∧ Ct j' = hi) (hn : ¬ Ct m = hi) :
    fb = true ↔ ∃ j', j' < m + 1 ∧ (j' = k ∨ At k - len < At j') ∧ Ct j' = hi := by
  rw [h]
  constructor
  · rintro ⟨j, h1, h2⟩; exact ⟨j, by omega, h2⟩
  · rintro ⟨j, h1, h2, h3⟩
    by_cases e : j = m
    · subst e; exact absurd h3 hn
    · exact ⟨j, by omega, h2, h3⟩
theorem Found.hit {At Ct : Nat → Int} {len hi : Int} {k m : Nat} (hw : m = k ∨ At k - len < At m) (he : Ct m = hi) :
    true = true ↔ ∃ j', j' < m + 1 ∧ (j' = k ∨ At k - len < At j') ∧ Ct j' = hi :=
  ⟨fun _ => ⟨m, by omega, hw, he⟩, fun _ => rfl⟩

theorem frozen_of_block {w : World} {b o : Nat} {cs : Array Value} {t : TypeId} (h : w.heap[b]? = some (.cells cs t)) : w.frozen? ⟨b, o, none⟩ = false := by
  simp [World.frozen?, h]

theorem both_start {w : World} {len sh : Int} {At Ct : Nat → Int} (q : Nat) :
    Both w (((w.drewN q).alloc (.cells #[.int .i64 len, .bool true, .slice none 0 0] 30)).alloc (.cells #[.int .i64 len, .bool false, .slice none 0 0] 30)) len sh At Ct 0 := by
  have e1 : (((w.drewN q).alloc (.cells #[.int .i64 len, .bool true, .slice none 0 0] 30)).alloc (.cells #[.int .i64 len, .bool false, .slice none 0 0] 30)).heap[w.heap.size]? = some (.cells #[.int .i64 len, .bool true, .slice none 0 0] 30) := by
    rw [Below.heap_alloc _ _ _ (by simp [World.drewN])]; exact heap_alloc_new (w.drewN q) _
  have e2 : (((w.drewN q).alloc (.cells #[.int .i64 len, .bool true, .slice none 0 0] 30)).alloc (.cells #[.int .i64 len, .bool false, .slice none 0 0] 30)).heap[w.heap.size + 1]? = some (.cells #[.int .i64 len, .bool false, .slice none 0 0] 30) := by
    have := heap_alloc_new ((w.drewN q).alloc (.cells #[.int .i64 len, .bool true, .slice none 0 0] 30)) (.cells #[.int .i64 len, .bool false, .slice none 0 0] 30)
    simpa [World.drewN] using this
  refine ⟨none, none, 0, 0, fun _ => 0, fun _ => 0, fun _ => 0, fun _ => 0, Pl.Inv.start .., Pl.Inv.start .., ⟨?_, ?_, ⟨.slice none 0 0, ?_, fun _ => ⟨rfl, rfl⟩, fun b hb => by simp at hb⟩, ?_⟩, ⟨?_, ?_, ⟨.slice none 0 0, ?_, fun _ => ⟨rfl, rfl⟩, fun b hb => by simp at hb⟩, ?_⟩, fun b hb => by simp at hb, fun b hb => by simp at hb, fun b hb => by simp at hb, ?_⟩
  · rw [cell_of_row _ _ _ _ _ _ e1]; rfl
  · rw [cell_of_row _ _ _ _ _ _ e1]; rfl
  · rw [cell_of_row _ _ _ _ _ _ e1]; rfl
  · exact frozen_of_block e1
  · rw [cell_of_row _ _ _ _ _ _ e2]; rfl
  · rw [cell_of_row _ _ _ _ _ _ e2]; rfl
  · rw [cell_of_row _ _ _ _ _ _ e2]; rfl
  · exact frozen_of_block e2
  · exact ((bdrew w q).alloc (Nat.le_refl _) _).alloc (by simp [World.drewN]) _

set_option maxRecDepth 10000 in
set_option maxHeartbeats 1000000 in
theorem mirror_main (len sh : Int) (sb so N cap : Nat) (At Ct : Nat → Int) (w : World)
    (hl1 : -4611686018427387904 ≤ len) (hl2 : len ≤ 4611686018427387904) (hs1 : -1152921504606846976 ≤ sh) (hs2 : sh ≤ 1152921504606846976)
    (hA : ∀ i, i < N → w.cell? ⟨sb, so + i * 2, none⟩ = some (.int .i64 (At i)))
    (hC : ∀ i, i < N → w.cell? ⟨sb, so + i * 2 + 1, none⟩ = some (.int .i64 (Ct i)))
    (hCr : ∀ i, i < N → -9223372036854775808 ≤ Ct i ∧ Ct i ≤ 9223372036854775807)
    (hsb : sb < w.heap.size) (hN : N ≤ 4096) :
    Calls Try.prog 4 #[.int .i64 len, .int .i64 sh, .slice (some ⟨sb, so, none⟩) N cap] w fun e w' => e = .returned (.bool true) ∧ Below w.heap.size w w' := by
  have HC : Hid (∀ i, i < N → -9223372036854775808 ≤ Ct i ∧ Ct i ≤ 9223372036854775807) := hCr
  have HA : Hid (∀ i, i < N → w.cell? ⟨sb, so + i * 2, none⟩ = some (.int .i64 (At i))) := hA
  have HC' : Hid (∀ i, i < N → w.cell? ⟨sb, so + i * 2 + 1, none⟩ = some (.int .i64 (Ct i))) := hC
  clear hCr hA hC
  go_enter Try.func4, Try.ntmps4
  go_wp2_with (go_at_call 8; refine (bytes8_any _ _ _ _ _ _ (by omega)).mono ?_; rintro e w' ⟨rfl, rfl⟩)
  go_loopw [7] (fun i wr => ∃ k q : Nat, k ≤ N ∧ i = .int .i64 k ∧ wr = w.drewN q ∧ Hid (Seen At Ct k)) (fun i _ => N - (intOf i).toNat)
  case atStart => exact ⟨0, 0, Nat.zero_le _, rfl, rfl, fun j h => absurd h (by omega)⟩
  case round =>
    obtain ⟨k, q, hk, rfl, rfl, hS⟩ := hrel
    by_cases hlt : k < N
    · have hlt' : (k : Int) < (N : Int) := by omega
      have hcA := HA.out k hlt
      have hcC := HC'.out k hlt
      have hcr := HC.out k hlt
      by_cases ha1 : At k < -1152921504606846976
      · go_wp2
        go_ret
        exact ⟨rfl, bdrew _ _⟩
      by_cases ha2 : 1152921504606846976 < At k
      · go_wp2
        go_ret
        exact ⟨rfl, bdrew _ _⟩
      by_cases hk0 : k = 0
      · subst hk0
        have hdec : decide ((0 : Int) < ((0 : Nat) : Int)) = false := rfl
        simp only [Nat.zero_mul, Nat.add_zero] at hcA hcC
        go_wp2_with fail
        go_quiet (fail)
        by_cases hm : Ct 0 = -9223372036854775808
        · have hm' : (Ct 0 == -9223372036854775808) = true := by simpa using hm
          clear hm
          go_wp2
          go_ret
          exact ⟨rfl, bdrew _ _⟩
        · have hm' : (Ct 0 == -9223372036854775808) = false := by simpa using hm
          have HM : Hid (¬ Ct 0 = -9223372036854775808) := hm
          clear hm
          go_wp2
          go_roundw
          case rel => exact ⟨1, q + nq, by omega, by go_num, rfl, hS.out.step (by omega) (by omega) (by have := HM.out; omega)⟩
          case measure => simp [intOf]; omega
      · obtain ⟨k', rfl⟩ : ∃ k', k = k' + 1 := ⟨k - 1, by omega⟩
        have hcA' := HA.out k' (by omega)
        have hpos : (0 : Int) < ((k' + 1 : Nat) : Int) := by omega
        go_wp2_with fail
        go_quiet (fail)
        by_cases hle : At (k' + 1) < At k'
        · go_wp2
          go_ret
          exact ⟨rfl, by first | exact bdrew _ _ | (rw [World.drewN_drewN]; exact bdrew _ _)⟩
        by_cases hm : Ct (k' + 1) = -9223372036854775808
        · have hm' : (Ct (k' + 1) == -9223372036854775808) = true := by simpa using hm
          clear hm
          go_wp2
          go_ret
          exact ⟨rfl, bdrew _ _⟩
        · have hm' : (Ct (k' + 1) == -9223372036854775808) = false := by simpa using hm
          have HM : Hid (¬ Ct (k' + 1) = -9223372036854775808) := hm
          clear hm
          go_wp2
          go_roundw
          case rel => exact ⟨k' + 2, q + nq, by omega, by go_num, rfl, hS.out.step (by omega) (fun _ => by simpa using by omega) (by have := HM.out; omega)⟩
          case measure => simp [intOf]; omega
    · have hW : Hid (Both w (((w.drewN q).alloc (.cells #[.int .i64 len, .bool true, .slice none 0 0] 30)).alloc (.cells #[.int .i64 len, .bool false, .slice none 0 0] 30)) len sh At Ct 0) := both_start q
      have hkN : k = N := by omega
      have hScr : Hid (Script len sh At Ct N) := by
        rw [hkN] at hS
        have hcr := HC.out
        exact ⟨hl1, hl2, hs1, hs2, hN, fun j hj => (hS.out j hj).1, fun j h0 hj => (hS.out j hj).2.1 h0, fun j hj => ⟨(hS.out j hj).2.2, (hcr j hj).2⟩⟩
      clear hkN
      go_wp2
      go_loopw [10] (fun i wr => ∃ k : Nat, k ≤ N ∧ i = .int .i64 k ∧ Hid (Both w wr len sh At Ct k)) (fun i _ => N - (intOf i).toNat)
      case atStart => exact ⟨0, Nat.zero_le _, rfl, hW⟩
      case round =>
        clear hlt hW hk hS
        obtain ⟨k, hk, rfl, hB⟩ := hrel
        by_cases hlt : k < N
        · have hlt' : (k : Int) < (N : Int) := by omega
          have hbel : Hid (Below w.heap.size w wr) := hB.out.below
          have cA : wr.cell? ⟨sb, so + k * 2, none⟩ = some (.int .i64 (At k)) := (hbel.out.cell hsb).trans (HA.out k hlt)
          have cC : wr.cell? ⟨sb, so + k * 2 + 1, none⟩ = some (.int .i64 (Ct k)) := (hbel.out.cell hsb).trans (HC'.out k hlt)
          have hk1 : (0 : Int) ≤ (k : Int) := by omega
          go_upto_region 23 with fail
          go_cut [11] (fun v wc => ∃ hi : Int, v = .int .i64 hi ∧ Hid (Half w wc len sh At Ct k hi))
          case first =>
            go_region_held3 (fun w' => w'.cell? ⟨sb, so + k * 2, none⟩ = some (.int .i64 (At k)) ∧ w'.cell? ⟨sb, so + k * 2 + 1, none⟩ = some (.int .i64 (Ct k))) (go_keep)
              ((go_at_call 6; refine (add_big hScr.out hlt _ hB.out.drew).mono ?_; rintro e w' ⟨hi, rfl, hH⟩; have q1 := (hH.below.cell (p := ⟨sb, so + k * 2, none⟩) hsb).trans (HA.out k hlt); have q2 := (hH.below.cell (p := ⟨sb, so + k * 2 + 1, none⟩) hsb).trans (HC'.out k hlt)))
            go_wp2_with fail
            go_meet
            case rel => exact ⟨hi, rfl, hH⟩
          case rest =>
            clear cA cC hbel hB
            obtain ⟨hi, rfl, hH⟩ := hcut
            have cA : wc.cell? ⟨sb, so + k * 2, none⟩ = some (.int .i64 (At k)) := (hH.out.below.cell hsb).trans (HA.out k hlt)
            have cC : wc.cell? ⟨sb, so + k * 2 + 1, none⟩ = some (.int .i64 (Ct k)) := (hH.out.below.cell hsb).trans (HC'.out k hlt)
            have hAb := hScr.out.at1 k hlt
            have hCb := hScr.out.ct k hlt
            have hwr1 : IntKind.i64.wrap (At k + sh) = At k + sh := wrap_same (by omega) (by omega)
            have hwr2 : IntKind.i64.wrap (-Ct k) = -Ct k := wrap_same (by omega) (by omega)
            go_upto_region 24 with fail
            go_cut [12] (fun v wc => v = .int .i64 (-hi) ∧ Hid (Both w wc len sh At Ct (k + 1)))
            case first =>
              go_region_held3 (fun w' => w'.cell? ⟨sb, so + k * 2, none⟩ = some (.int .i64 (At k)) ∧ w'.cell? ⟨sb, so + k * 2 + 1, none⟩ = some (.int .i64 (Ct k))) (go_keep)
                ((go_at_call 6; refine (add_small hScr.out hlt hi _ hH.out.drew).mono ?_; rintro e w' ⟨rfl, hB2⟩; have q1 := (hB2.below.cell (p := ⟨sb, so + k * 2, none⟩) hsb).trans (HA.out k hlt); have q2 := (hB2.below.cell (p := ⟨sb, so + k * 2 + 1, none⟩) hsb).trans (HC'.out k hlt)))
              go_wp2_with fail
              go_meet
              case rel => exact ⟨rfl, hB2⟩
            case rest =>
              have hBest : Hid (Best true len At Ct k hi) := hH.out.1
              have hhi : -9223372036854775807 ≤ hi ∧ hi ≤ 9223372036854775807 := by
                obtain ⟨⟨j, hj, _, e⟩, _⟩ := hBest.out
                rw [e]; exact hScr.out.ct j (by omega)
              clear cA cC hH hwr1 hwr2
              obtain ⟨rfl, hB2⟩ := hcut
              have cA : wc.cell? ⟨sb, so + k * 2, none⟩ = some (.int .i64 (At k)) := (hB2.out.below.cell hsb).trans (HA.out k hlt)
              have hneq : (-hi != -hi) = false := by simp
              go_wp2
              go_loopw [14, 15] (fun f j wr => wr = wc ∧ ∃ (m : Nat) (fb : Bool), m ≤ k + 1 ∧ j = .int .i64 m ∧ f = .bool fb ∧ Hid (fb = true ↔ ∃ j', j' < m ∧ (j' = k ∨ At k - len < At j') ∧ Ct j' = hi)) (fun _ j _ => k + 1 - (intOf j).toNat)
              case atStart => exact ⟨rfl, 0, false, Nat.zero_le _, rfl, rfl, by simp [Hid]⟩
              case round =>
                obtain ⟨rfl, m, fb, hm, rfl, rfl, hF⟩ := hrel
                by_cases hmk : m ≤ k
                · have hmN : m < N := by omega
                  have mA : wr.cell? ⟨sb, so + m * 2, none⟩ = some (.int .i64 (At m)) := (hB2.out.below.cell hsb).trans (HA.out m hmN)
                  have mC : wr.cell? ⟨sb, so + m * 2 + 1, none⟩ = some (.int .i64 (Ct m)) := (hB2.out.below.cell hsb).trans (HC'.out m hmN)
                  have hmN' : (m : Int) < (N : Int) := by omega
                  by_cases hout : m < k ∧ At m ≤ At k - len
                  · obtain ⟨ho1, ho2⟩ := hout
                    go_wp2
                    go_roundw
                    case rel => exact ⟨trivial, m + 1, fb, by omega, by go_num, rfl, Found.skip hF.out (by omega)⟩
                    case measure => simp [intOf]; omega
                  · have hin : m = k ∨ At k - len < At m := by omega
                    have hle : Ct m ≤ hi := by
                      have := hBest.out.2 m hmk hin
                      simp [Pl.Beats] at this
                      exact this
                    have HIN : Hid (m = k ∨ At k - len < At m) := hin
                    clear hin
                    by_cases heq : Ct m = hi
                    · have heq' : (Ct m == hi) = true := by simpa using heq
                      have HEQ : Hid (Ct m = hi) := heq
                      clear heq
                      by_cases hmk' : m < k
                      · have hgt : At k - len < At m := by omega
                        clear hout
                        go_wp2
                        go_roundw
                        case rel => exact ⟨trivial, m + 1, true, by omega, by go_num, rfl, Found.hit HIN.out HEQ.out⟩
                        case measure => simp [intOf]; omega
                      · have hdec : decide ((m : Int) < (k : Int)) = false := decide_eq_false (by omega)
                        clear hout
                        go_wp2
                        go_roundw
                        case rel => exact ⟨trivial, m + 1, true, by omega, by go_num, rfl, Found.hit HIN.out HEQ.out⟩
                        case measure => simp [intOf]; omega
                    · have heq' : (Ct m == hi) = false := by simpa using heq
                      have HEQ : Hid (¬ Ct m = hi) := heq
                      clear heq
                      by_cases hmk' : m < k
                      · have hgt : At k - len < At m := by omega
                        clear hout
                        go_wp2
                        go_roundw
                        case rel => exact ⟨trivial, m + 1, fb, by omega, by go_num, rfl, Found.miss hF.out HEQ.out⟩
                        case measure => simp [intOf]; omega
                      · have hdec : decide ((m : Int) < (k : Int)) = false := decide_eq_false (by omega)
                        clear hout
                        go_wp2
                        go_roundw
                        case rel => exact ⟨trivial, m + 1, fb, by omega, by go_num, rfl, Found.miss hF.out HEQ.out⟩
                        case measure => simp [intOf]; omega
                · obtain rfl : fb = true := by
                    obtain ⟨⟨j, hj, hw, e⟩, _⟩ := hBest.out
                    exact hF.out.2 ⟨j, by omega, hw, e.symm⟩
                  go_wp2
                  go_roundw
                  case rel => exact ⟨k + 1, by omega, by go_num, hB2⟩
                  case measure => simp [intOf]; omega
        · go_wp2
          go_ret
          exact ⟨rfl, hB.out.below⟩
set_option maxRecDepth 10000 in
set_option maxHeartbeats 400000 in
/-- No step at all. -/
theorem mirror_none (len sh : Int) (ao : Option Addr) (cap : Nat) (w : World)
    (hl1 : -4611686018427387904 ≤ len) (hl2 : len ≤ 4611686018427387904) (hs1 : -1152921504606846976 ≤ sh) (hs2 : sh ≤ 1152921504606846976) :
    Calls Try.prog 4 #[.int .i64 len, .int .i64 sh, .slice ao 0 cap] w fun e w' => e = .returned (.bool true) ∧ Below w.heap.size w w' := by
  go_enter Try.func4, Try.ntmps4
  go_wp2_with (go_at_call 8; refine (bytes8_any _ _ _ _ _ _ (by omega)).mono ?_; rintro e w' ⟨rfl, rfl⟩)
  refine wp_loop_rounds 1 ?_
  rw [rounds_succ]
  go_wp2
  refine wp_loop_rounds 1 ?_
  rw [rounds_succ]
  go_wp2
  go_ret
  exact ⟨rfl, ((Below.refl _ _).alloc (Nat.le_refl _) _).alloc (by simp) _⟩

set_option maxRecDepth 10000 in
set_option maxHeartbeats 1000000 in
/-- The law's early ways out. -/
theorem mirror_early (len sh : Int) (ao : Option Addr) (N cap : Nat) (w : World) (hN : N ≤ 9223372036854775807)
    (h : 4096 < N ∨ len < -4611686018427387904 ∨ 4611686018427387904 < len ∨ sh < -1152921504606846976 ∨ 1152921504606846976 < sh) :
    Calls Try.prog 4 #[.int .i64 len, .int .i64 sh, .slice ao N cap] w fun e w' => e = .returned (.bool true) ∧ Below w.heap.size w w' := by
  by_cases h1 : N ≤ 1048576
  · by_cases h2 : N ≤ 4096
    · by_cases h3 : len < -4611686018427387904
      · go_enter Try.func4, Try.ntmps4
        go_wp2_with (go_at_call 8; refine (bytes8_any _ _ _ _ _ _ h1).mono ?_; rintro e w' ⟨rfl, rfl⟩)
        go_ret
        exact ⟨rfl, Below.refl _ _⟩
      by_cases h4 : 4611686018427387904 < len
      · go_enter Try.func4, Try.ntmps4
        go_wp2_with (go_at_call 8; refine (bytes8_any _ _ _ _ _ _ h1).mono ?_; rintro e w' ⟨rfl, rfl⟩)
        go_ret
        exact ⟨rfl, Below.refl _ _⟩
      by_cases h5 : sh < -1152921504606846976
      · go_enter Try.func4, Try.ntmps4
        go_wp2_with (go_at_call 8; refine (bytes8_any _ _ _ _ _ _ h1).mono ?_; rintro e w' ⟨rfl, rfl⟩)
        go_ret
        exact ⟨rfl, Below.refl _ _⟩
      have h6 : 1152921504606846976 < sh := by omega
      go_enter Try.func4, Try.ntmps4
      go_wp2_with (go_at_call 8; refine (bytes8_any _ _ _ _ _ _ h1).mono ?_; rintro e w' ⟨rfl, rfl⟩)
      go_ret
      exact ⟨rfl, Below.refl _ _⟩
    · go_enter Try.func4, Try.ntmps4
      go_wp2_with (go_at_call 8; refine (bytes8_any _ _ _ _ _ _ h1).mono ?_; rintro e w' ⟨rfl, rfl⟩)
      go_ret
      exact ⟨rfl, Below.refl _ _⟩
  · go_enter Try.func4, Try.ntmps4
    go_wp2_with (go_at_call 8; refine (bytes8_big _ _ _ _ _ _ h1).mono ?_; rintro e w' ⟨rfl, rfl⟩)
    go_ret
    exact ⟨rfl, Below.refl _ _⟩

/-- ████ FnWindowAddModesMirrorAndShift: whatever the script. -/
theorem mirror_any (len sh : Int) (ao : Option Addr) (N cap : Nat) (At Ct : Nat → Int) (w : World)
    (hao : 0 < N → ∃ sb so, ao = some ⟨sb, so, none⟩ ∧ sb < w.heap.size ∧ (∀ i, i < N → w.cell? ⟨sb, so + i * 2, none⟩ = some (.int .i64 (At i))) ∧ (∀ i, i < N → w.cell? ⟨sb, so + i * 2 + 1, none⟩ = some (.int .i64 (Ct i))))
    (hCr : ∀ i, i < N → -9223372036854775808 ≤ Ct i ∧ Ct i ≤ 9223372036854775807) (hN : N ≤ 9223372036854775807) :
    Calls Try.prog 4 #[.int .i64 len, .int .i64 sh, .slice ao N cap] w fun e w' => e = .returned (.bool true) ∧ Below w.heap.size w w' := by
  by_cases h : 4096 < N ∨ len < -4611686018427387904 ∨ 4611686018427387904 < len ∨ sh < -1152921504606846976 ∨ 1152921504606846976 < sh
  · exact mirror_early len sh ao N cap w hN h
  · by_cases h0 : N = 0
    · subst h0; exact mirror_none len sh ao cap w (by omega) (by omega) (by omega) (by omega)
    · obtain ⟨sb, so, rfl, hsb, hA, hC⟩ := hao (by omega)
      exact mirror_main len sh sb so N cap At Ct w (by omega) (by omega) (by omega) (by omega) hA hC hCr hsb (by omega)

end Go.Proofs.Qxb6629285a
