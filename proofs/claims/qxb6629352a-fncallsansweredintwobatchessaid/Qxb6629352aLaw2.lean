/-
  Seat b6629352a. THE WALK of FnCallsAnsweredInTwoBatches (4).
-/
import Derived.Test.Qxb6629352aLaw1
import Derived.Test.Qxb6629352aPlain2
import Derived.Test.Qxb6629352aBytes2
import Derived.Test.Qxb6629352aMark
namespace Go.Proofs.Qxb6629352a
open Go.RowKit
attribute [local go_sem ↓] Go.wp_at_zero Go.wp_at_succ

theorem callsOf_quiet (ao : Option Addr) (n cap : Nat) (F : Nat → Blk) (s0 : ByteArray) (w : World) (hn : n ≤ 4096) (hF : Args w ao n F) :
    Calls Try.prog 12 #[.slice ao n cap, .string s0] w fun e w' => e = .returned (.int .i64 (Pl.cnt (uk F) s0.toList n)) ∧ w' = w :=
  (callsOf ao n cap F s0 w hn hF).mono fun _ _ ⟨h1, h2⟩ => ⟨h1, h2.symm⟩

/-- What is known behind 'all := core.CallsAnswered(..)'. -/
structure All (w w3 : World) (g3 : Nat) (ra sa : Option Addr) (R S : Nat) (F G : Nat → Blk) : Prop where
  given : Given w3 ra sa R S F G
  lt : g3 < w3.heap.size
  ans : ∀ i, i < S → w3.cell? ⟨g3, i, none⟩ = some (.int .i64 (Pl.ans (uk F) R (rk G) i))
  below : Below w.heap.size w w3

theorem Given.below {w w' : World} {ra sa : Option Addr} {R S : Nat} {F G : Nat → Blk} (h : Given w ra sa R S F G) (hb : Below w.heap.size w w') : Given w' ra sa R S F G :=
  ⟨h.f.below hb, h.g.below hb, h.ff, h.gf, fun i hi => input_below (h.fi i hi) hb, fun i hi => input_below (h.gi i hi) hb⟩
theorem All.go {w w3 w' : World} {g3 : Nat} {ra sa : Option Addr} {R S : Nat} {F G : Nat → Blk} (h : All w w3 g3 ra sa R S F G) (hb : Below w3.heap.size w3 w') : All w w' g3 ra sa R S F G :=
  ⟨h.given.below hb, Nat.lt_of_lt_of_le h.lt hb.size, fun i hi => (hb.cell (p := ⟨g3, i, none⟩) h.lt).trans (h.ans i hi), h.below.trans (hb.mono h.below.size)⟩

/-- 'pre' has been answered. -/
structure Pre (w : World) (g6 R c : Nat) (F G : Nat → Blk) : Prop where
  lt : g6 < w.heap.size
  ans : ∀ i, i < c → w.cell? ⟨g6, i, none⟩ = some (.int .i64 (Pl.ans (uk F) R (rk G) i))
theorem Pre.go {w w' : World} {g6 R c : Nat} {F G : Nat → Blk} (h : Pre w g6 R c F G) (hb : Below w.heap.size w w') : Pre w' g6 R c F G :=
  ⟨Nat.lt_of_lt_of_le h.lt hb.size, fun i hi => (hb.cell (p := ⟨g6, i, none⟩) h.lt).trans (h.ans i hi)⟩

set_option maxRecDepth 20000 in
set_option maxHeartbeats 2000000 in
theorem law2_walk (r1 r2 : ByteArray) (ra sa : Option Addr) (R S rc sc : Nat) (c : Int) (F G : Nat → Blk) (w : World) (h1 : r1.size ≤ 9223372036854775807) (h2 : r2.size ≤ 9223372036854775807) (hR : R ≤ 9223372036854775807) (hS : S ≤ 9223372036854775807)
    (hg : Given w ra sa R S F G) :
    Calls Try.prog 4 #[.string r1, .slice ra R rc, .string r2, .slice sa S sc, .int .i64 c] w fun e w' => e = .returned (.bool true) ∧ Below w.heap.size w w' := by
  have HG : Hid (Given w ra sa R S F G) := hg
  clear hg
  go_enter Try.func4, Try.ntmps4
  go_wp2_with fail
  refine (bytes10_any c r1 r2 ra sa R S rc sc F G _ h1 h2 hR hS HG.out.f HG.out.ff HG.out.g HG.out.gf).mono ?_
  rintro e w' ⟨v, rfl, rfl⟩
  cases v
  · go_wp2
    go_ret
    exact ⟨rfl, Below.refl _ _⟩
  by_cases t1 : 65536 < r1.size
  · go_wp2
    go_ret
    exact ⟨rfl, Below.refl _ _⟩
  by_cases t2 : 65536 < r2.size
  · go_wp2
    go_ret
    exact ⟨rfl, Below.refl _ _⟩
  go_wp2_with fail
  refine (tooBig_any ra sa R S rc sc F G _ hR hS HG.out.f HG.out.ff HG.out.g HG.out.gf).mono ?_
  rintro e w' ⟨v, rfl, rfl, hv⟩
  cases v
  case true =>
    clear hv
    go_wp2
    go_ret
    exact ⟨rfl, Below.refl _ _⟩
  obtain ⟨hR4, hS4, hFi, hGi⟩ := hv rfl
  have HIL : Hid ((∀ i, i < R → (F i).il ≤ 1048576) ∧ ∀ i, i < S → (G i).il ≤ 1048576) := ⟨hFi, hGi⟩
  clear hv hFi hGi
  by_cases t3 : c < 0
  · go_wp2
    go_ret
    exact ⟨rfl, Below.refl _ _⟩
  by_cases t4 : (S : Int) < c
  · go_wp2
    go_ret
    exact ⟨rfl, Below.refl _ _⟩
  obtain ⟨c, rfl⟩ := Int.eq_ofNat_of_zero_le (show 0 ≤ c by omega)
  go_wp2_with fail
  refine (toCore_any ra R rc F _ hR4 HG.out.f HG.out.fi HIL.out.1).mono ?_
  rintro e w1 ⟨g1, F', rfl, hg1, hg1', _, hsF, hBF, hb1⟩
  have HC1 : Hid (w.heap.size ≤ g1 ∧ g1 < w1.heap.size ∧ (∀ i, i < R → Same (F' i) (F i)) ∧ Blocks w1 g1 0 R F' ∧ Below w.heap.size w w1) := ⟨hg1, hg1', hsF, hBF, hb1⟩
  clear hg1 hg1' hsF hBF hb1
  go_wp2_with fail
  refine (toCore_any sa S sc G _ hS4 (HG.out.g.below HC1.out.2.2.2.2) (fun i hi => input_below (HG.out.gi i hi) HC1.out.2.2.2.2) HIL.out.2).mono ?_
  rintro e w2 ⟨g2, G', rfl, hg2, hg2', _, hsG, hBG, hb2⟩
  have HC2 : Hid (w1.heap.size ≤ g2 ∧ g2 < w2.heap.size ∧ (∀ i, i < S → Same (G' i) (G i)) ∧ Blocks w2 g2 0 S G' ∧ Below w1.heap.size w1 w2) := ⟨hg2, hg2', hsG, hBG, hb2⟩
  clear hg2 hg2' hsG hBG hb2
  go_wp2_with fail
  refine (calls_main r1 r2 g1 0 R R g2 0 S S F' G' _ hR4 hS4 (Nat.lt_of_lt_of_le HC1.out.2.1 HC2.out.2.2.2.2.size) HC2.out.2.1 (HC1.out.2.2.2.1.below HC1.out.2.1 HC2.out.2.2.2.2) HC2.out.2.2.2.1
    (fun i hi => by have := HG.out.ff i hi; rw [(HC1.out.2.2.1 i hi).2.1]; unfold maxLen; have := this.id; omega) (fun i hi => by have := HG.out.gf i hi; rw [(HC2.out.2.2.1 i hi).2.2]; unfold maxLen; have := this.tu; omega)).mono ?_
  rintro e w3 ⟨g3, rfl, hg3, hg3', hans, hb3⟩
  have HALL : Hid (All w w3 g3 ra sa R S F G) := by
    have b1 := HC1.out.2.2.2.2
    have b2 := HC2.out.2.2.2.2.mono (B' := w.heap.size) b1.size
    have b3 := (b1.trans b2).trans (hb3.mono (Nat.le_trans b1.size b2.size))
    refine ⟨HG.out.below b3, hg3', fun i hi => ?_, b3⟩
    rw [hans i hi, Pl.ans_congr (uk_same HC1.out.2.2.1) (fun j hj => rk_same HC2.out.2.2.1 j (by omega))]
  clear hg3 hg3' hans hb3 HC1 HC2 HG
  have hnn : ((S : Int) != (S : Int)) = false := by simp
  go_wp2
  go_loopw [14] (fun i wr => ∃ k : Nat, k ≤ S ∧ i = .int .i64 k ∧ Hid (All w wr g3 ra sa R S F G)) (fun i _ => S - (intOf i).toNat)
  case atStart => exact ⟨0, Nat.zero_le _, rfl, HALL⟩
  case round =>
    clear HALL
    obtain ⟨k, hk, rfl, hW⟩ := hrel
    by_cases hlt : k < S
    · have hlt' : (k : Int) < (S : Int) := by omega
      obtain ⟨sb, so, rfl, hsl, hBG⟩ := hW.out.given.g (by omega)
      have HB : Hid (∀ n, Blocks (wr.drewN n) sb so S G) := fun n => hBG.below hsl (bel_drewN wr n)
      have HA1 : Hid (∀ n, Args (wr.drewN n) ra R F) := fun n => hW.out.given.f.below (bel_drewN _ n)
      have hc := hW.out.ans k hlt
      have d0 := (hBG.at hlt).1
      have d5 := (hBG.at hlt).2.2.2.2.2.1
      clear hBG hsl
      by_cases hr : isRes (G k) = true
      · have hr' : ((G k).ty.toList == [116, 111, 111, 108, 95, 114, 101, 115, 117, 108, 116]) = true := hr
        have HRK : Hid (rk G k = some (G k).tu.toList) := by simp [Hid, rk, hr]
        clear hr
        by_cases hrc : Pl.cnt (rk G) (G k).tu.toList k < Pl.cnt (uk F) (G k).tu.toList R
        · obtain ⟨j, hjR, hju, hav⟩ : ∃ j, j < R ∧ uk F j = some (G k).tu.toList ∧ Pl.ans (uk F) R (rk G) k = ((j : Nat) : Int) := by
            rcases Pl.ans_cases (uk F) R (rk G) k with ⟨_, h | ⟨key, h, h'⟩⟩ | ⟨key, j, h1, _, h3, h4, h5, _⟩
            · rw [HRK.out] at h; cases h
            · rw [HRK.out] at h
              obtain rfl : (G k).tu.toList = key := by injection h
              omega
            · rw [HRK.out] at h1
              obtain rfl : (G k).tu.toList = key := by injection h1
              exact ⟨j, h4, h5, h3⟩
          obtain ⟨rb, ro, rfl, hrl, hBF⟩ := hW.out.given.f (by omega)
          have e0 := (hBF.at hjR).1
          have e2 := (hBF.at hjR).2.2.1
          have hju' : isUse (F j) = true ∧ (F j).id.toList = (G k).tu.toList := by
            unfold uk at hju
            split at hju
            · rename_i hu; exact ⟨hu, by injection hju⟩
            · cases hju
          have hq1 : ((F j).ty.toList == [116, 111, 111, 108, 95, 117, 115, 101]) = true := hju'.1
          have hq2 : ((F j).ty.toList != [116, 111, 111, 108, 95, 117, 115, 101]) = false := by rw [bne, hq1]; rfl
          have hq3 : ((F j).id.toList == (G k).tu.toList) = true := by rw [hju'.2]; simp
          have hq4 : ((F j).id.toList != (G k).tu.toList) = false := by rw [bne, hq3]; rfl
          have HONE : Hid (∀ m, m < k → (Pl.ans (uk F) R (rk G) m == ((j : Nat) : Int)) = false) := fun m hm => by
            have := Pl.ans_once (u := uk F) (R := R) (r := rk G) hm (by rw [hav]; omega)
            rw [hav] at this
            simpa using this
          rw [hav] at hc
          have hj0 : (((j : Nat) : Int) != -1) = true := by rw [bne_iff_ne]; omega
          have hj1 : ((j : Nat) : Int) < (R : Int) := by omega
          have hj2 : (0 : Int) ≤ ((j : Nat) : Int) := by omega
          clear hju hju' hav hBF hrl
          go_wp2_with fail
          go_quiet ((first | (go_at_call 11; exact Calls.quiet_of (rankOf_any sb so S sc k G _ hS4 hlt (HB.out _))) | (go_at_call 12; exact Calls.quiet_of_same (callsOf_quiet (some ⟨rb, ro, none⟩) R rc F (G k).tu _ hR4 (HA1.out _)))))
          go_wp2_with fail
          go_quiet (fail)
          go_wp2
          go_loop [17] (fun i => ∃ m : Nat, m ≤ k ∧ i = .int .i64 m) (fun i => k - (intOf i).toNat)
          case atStart => exact ⟨0, Nat.zero_le _, rfl⟩
          case round =>
            obtain ⟨m, hm, rfl⟩ := hrel
            by_cases hmk : m < k
            · have hcm := hW.out.ans m (by omega)
              have hne := HONE.out m hmk
              have hmS : (m : Int) < (S : Int) := by omega
              go_wp2
              go_round
              case rel => exact ⟨m + 1, by omega, by go_num⟩
              case measure => simp [intOf]; omega
            · go_wp2
              go_roundw
              case rel => exact ⟨k + 1, by omega, by go_num, hW.out.go (by first | exact bel_drewN _ _ | (rw [World.drewN_drewN]; exact bel_drewN _ _))⟩
              case measure => simp [intOf]; omega
        · have hav : Pl.ans (uk F) R (rk G) k = -1 := Pl.ans_miss HRK.out (by omega)
          rw [hav] at hc
          have hdec : decide (((Pl.cnt (rk G) (G k).tu.toList k : Nat) : Int) < ((Pl.cnt (uk F) (G k).tu.toList R : Nat) : Int)) = false := decide_eq_false (by omega)
          clear hav
          go_wp2_with fail
          go_quiet ((first | (go_at_call 11; exact Calls.quiet_of (rankOf_any sb so S sc k G _ hS4 hlt (HB.out _))) | (go_at_call 12; exact Calls.quiet_of_same (callsOf_quiet ra R rc F (G k).tu _ hR4 (HA1.out _)))))
          go_wp2
          go_roundw
          case rel => exact ⟨k + 1, by omega, by go_num, hW.out.go (bel_drewN _ _)⟩
          case measure => simp [intOf]; omega
      · have hr' : ((G k).ty.toList == [116, 111, 111, 108, 95, 114, 101, 115, 117, 108, 116]) = false := by simpa [isRes] using hr
        have hav : Pl.ans (uk F) R (rk G) k = -1 := Pl.ans_none (by simp [rk, hr])
        rw [hav] at hc
        clear hr hav
        go_wp2_with fail
        go_quiet ((fail))
        go_wp2
        go_roundw
        case rel => exact ⟨k + 1, by omega, by go_num, hW.out.go (bel_drewN _ _)⟩
        case measure => simp [intOf]; omega
    · clear hnn
      go_wp2_with fail
      refine (toCore_any sa S sc G _ hS4 hW.out.given.g hW.out.given.gi HIL.out.2).mono ?_
      rintro e w4 ⟨g4, G4, rfl, hg4, hg4', _, hsG, hBG, hb4⟩
      have HC4 : Hid (g4 < w4.heap.size ∧ (∀ i, i < S → Same (G4 i) (G i)) ∧ Blocks w4 g4 0 S G4) := ⟨hg4', hsG, hBG⟩
      have HALL : Hid (All w w4 g3 ra sa R S F G) := hW.out.go hb4
      clear hg4 hg4' hsG hBG hb4 hW hlt hk
      have hc0 : (0 : Int) ≤ (c : Int) := by omega
      have hcS : (c : Int) ≤ (S : Int) := by omega
      have hcSn : c ≤ S := by omega
      go_wp2_with fail
      go_region_held3 (fun _ => True) (trivial)
        (first
          | (go_at_call 7; refine (toCore_any ra R rc F _ hR4 (HALL.out.given.f.below (bel_drewN w4 1)) (fun i hi => input_below (HALL.out.given.fi i hi) (bel_drewN w4 1)) HIL.out.1).mono ?_; rintro e w5 ⟨g5, F5, rfl, hg5, hg5', _, hsF5, hBF5, hb5⟩)
          | (go_at_call 8; refine (calls_main r1 r2 g5 0 R R g4 0 c S F5 G4 _ hR4 (by omega) hg5' (Nat.lt_of_lt_of_le HC4.out.1 hb5.size) hBF5 (fun i hi => (HC4.out.2.2.below HC4.out.1 ((bel_drewN w4 1).trans hb5)) i (by omega)) (fun i hi => by have := HALL.out.given.ff i hi; rw [(hsF5 i hi).2.1]; unfold maxLen; have := this.id; omega) (fun i hi => by have := HALL.out.given.gf i (by omega); rw [(HC4.out.2.1 i (by omega)).2.2]; unfold maxLen; have := this.tu; omega)).mono ?_; rintro e w6 ⟨g6, rfl, hg6, hg6', hans6, hb6⟩))
      have HPRE : Hid (Pre w6 g6 R c F G) := ⟨hg6', fun i hi => by rw [hans6 i hi, Pl.ans_congr (uk_same hsF5) (fun j hj => rk_same HC4.out.2.1 j (by omega))]⟩
      have HALL6 : Hid (All w w6 g3 ra sa R S F G) := (HALL.out.go ((bel_drewN w4 1).trans hb5)).go hb6
      clear hg5 hg5' hsF5 hBF5 hb5 hg6 hg6' hans6 hb6 HC4 HALL
      have hnn : ((c : Int) != (c : Int)) = false := by simp
      go_wp2_with fail
      refine (toCore_any ra R rc F _ hR4 HALL6.out.given.f HALL6.out.given.fi HIL.out.1).mono ?_
      rintro e w7 ⟨g7, F7, rfl, hg7, hg7', hth7, hsF7, hBF7, hb7⟩
      have HMK : Hid (Mk w6 w7 g7 R (marked (uk F) R (rk G) F7 0)) := ⟨hth7, hBF7, hg7', hb7⟩
      have HG7 : Hid (w6.heap.size ≤ g7 ∧ ∀ i, i < R → Same (F7 i) (F i)) := ⟨hg7, hsF7⟩
      clear hg7 hg7' hth7 hsF7 hBF7 hb7 hnn
      go_wp2
      go_loopw [21] (fun i wr => ∃ m : Nat, m ≤ c ∧ i = .int .i64 m ∧ Hid (Mk w6 wr g7 R (marked (uk F) R (rk G) F7 m))) (fun i _ => c - (intOf i).toNat)
      case atStart => exact ⟨0, Nat.zero_le _, rfl, HMK⟩
      case round =>
        clear HMK
        obtain ⟨m, hm, rfl, hM⟩ := hrel
        by_cases hmc : m < c
        · have hmc' : (m : Int) < (c : Int) := by omega
          have hcm := (HPRE.out.go hM.out.below).ans m hmc
          rcases Pl.ans_cases (uk F) R (rk G) m with ⟨hav, _⟩ | ⟨key, j, _, _, hav, hjR, _, _⟩
          · have HAV : Hid (Pl.ans (uk F) R (rk G) m = -1) := hav
            rw [hav] at hcm
            clear hav
            go_wp2
            go_roundw
            case rel => exact ⟨m + 1, by omega, by go_num, hM.out.skip HAV.out⟩
            case measure => simp [intOf]; omega
          · have HAV : Hid (Pl.ans (uk F) R (rk G) m = ((j : Nat) : Int)) := hav
            rw [hav] at hcm
            obtain ⟨u0, hu0⟩ := Option.isSome_iff_exists.1 (hM.out.there (j * 8) (by omega)).1
            have hf0 := (hM.out.there (j * 8) (by omega)).2
            rw [Nat.zero_add] at hu0 hf0
            have hj0 : (((j : Nat) : Int) != -1) = true := by rw [bne_iff_ne]; omega
            have hj1 : ((j : Nat) : Int) < (R : Int) := by omega
            have hj2 : (0 : Int) ≤ ((j : Nat) : Int) := by omega
            clear hav
            go_wp2
            go_roundw
            case rel => exact ⟨m + 1, by omega, by go_num, hM.out.step HG7.out.1 hjR HAV.out⟩
            case measure => simp [intOf]; omega
        · have hM' : Hid (Mk w6 wr g7 R (marked (uk F) R (rk G) F7 c)) := by rw [show m = c from by omega] at hM; exact hM
          have HALLr : Hid (All w wr g3 ra sa R S F G) := HALL6.out.go hM'.out.below
          have HPREr : Hid (Pre wr g6 R c F G) := HPRE.out.go hM'.out.below
          clear hM HPRE HALL6 hm
          go_wp2_with fail
          refine (toCore_any sa S sc G _ hS4 HALLr.out.given.g HALLr.out.given.gi HIL.out.2).mono ?_
          rintro e w8 ⟨g8, G8, rfl, hg8, hg8', _, hsG8, hBG8, hb8⟩
          have HG8 : Hid (g8 < w8.heap.size ∧ (∀ i, i < S → Same (G8 i) (G i)) ∧ Blocks w8 g8 0 S G8 ∧ Below wr.heap.size wr w8) := ⟨hg8', hsG8, hBG8, hb8⟩
          clear hg8 hg8' hsG8 hBG8 hb8
          have hRK : Hid (∀ i, i < S - c → rk (fun j => G8 (c + j)) i = (fun j => rk G (c + j)) i) := fun i hi => rk_same HG8.out.2.1 (c + i) (by omega)
          have HTAIL : Hid (∀ off, (off = c * 8 ∨ S = c) → Calls Try.prog 8 #[.agg #[.string r1, .slice (some ⟨g7, 0, none⟩) R R], .agg #[.string r2, .slice (some ⟨g8, off, none⟩) (S - c) (S - c)]] w8 fun e w9 => ∃ g9, e = .returned (.slice (some ⟨g9, 0, none⟩) (S - c) (S - c)) ∧ g9 < w9.heap.size ∧ (∀ i, i < S - c → w9.cell? ⟨g9, i, none⟩ = some (.int .i64 (Pl.ans (uk F) R (rk G) (c + i)))) ∧ Below w8.heap.size w8 w9) := fun off ho => by
            refine (calls_main r1 r2 g7 0 R R g8 off (S - c) (S - c) (marked (uk F) R (rk G) F7 c) (fun j => G8 (c + j)) w8 hR4 (by omega) (Nat.lt_of_lt_of_le hM'.out.lt HG8.out.2.2.2.size) HG8.out.1 (hM'.out.blocks.below hM'.out.lt HG8.out.2.2.2) ?_ ?_ ?_).mono ?_
            · intro i hi j v hv
              have e : off = c * 8 := by rcases ho with h | h; exact h; omega
              have := HG8.out.2.2.1 (c + i) (by omega) j v hv
              rw [e]
              rwa [show 0 + (c + i) * 8 + j = c * 8 + i * 8 + j from by omega] at this
            · intro i hi
              have := HALLr.out.given.ff i hi
              rw [(marked_spec (uk F) R (rk G) F7 i c).2.2.1, (HG7.out.2 i hi).2.1]; unfold maxLen; have := this.id; omega
            · intro i hi
              have := HALLr.out.given.gf (c + i) (by omega)
              rw [(HG8.out.2.1 (c + i) (by omega)).2.2]; unfold maxLen; have := this.tu; omega
            · rintro e w9 ⟨g9, rfl, _, hg9', hans9, hb9⟩
              refine ⟨g9, rfl, hg9', fun i hi => ?_, hb9⟩
              rw [hans9 i hi, ← Pl.ans_batch (r := rk G) (uk_marked (u := uk F) (r := rk G) (F7 := F7) (c := c) (uk_same HG7.out.2)),
                Pl.ans_congr (r := rk fun j => G8 (c + j)) (r' := fun j => rk G (c + j)) (fun j _ => rfl) (fun j hj => hRK.out j (by omega))]
          go_upto_region 45 with fail
          go_cut [24] (fun v wc => ∃ g9, v = .slice (some ⟨g9, 0, none⟩) (S - c) (S - c) ∧ Hid (g9 < wc.heap.size ∧ (∀ i, i < S - c → wc.cell? ⟨g9, i, none⟩ = some (.int .i64 (Pl.ans (uk F) R (rk G) (c + i)))) ∧ Below w8.heap.size w8 wc))
          case first =>
            by_cases hSc : S = c
            · have HT0 := HTAIL.out 0 (Or.inr hSc)
              have hz : S - c = 0 := by omega
              rw [hz] at HT0
              have HT1 : Hid (Calls Try.prog 8 #[.agg #[.string r1, .slice (some ⟨g7, 0, none⟩) R R], .agg #[.string r2, .slice (some ⟨g8, 0, none⟩) 0 0]] w8 fun e w9 => ∃ g9, e = .returned (.slice (some ⟨g9, 0, none⟩) 0 0) ∧ g9 < w9.heap.size ∧ (∀ i, i < 0 → w9.cell? ⟨g9, i, none⟩ = some (.int .i64 (Pl.ans (uk F) R (rk G) (c + i)))) ∧ Below w8.heap.size w8 w9) := HT0
              have hSc' : (S = c) = True := eq_true hSc
              clear HT0 hSc
              go_wp2_with fail
              refine (HT1.out).mono ?_
              rintro e w9 ⟨g9, rfl, h91, h92, h93⟩
              go_wp2_with fail
              go_meet
              case rel => exact ⟨g9, by rw [hz], by rw [hz]; exact ⟨h91, h92, h93⟩⟩
            · go_wp2_with fail
              refine (HTAIL.out (c * 8) (Or.inl rfl)).mono ?_
              rintro e w9 ⟨g9, rfl, h91, h92, h93⟩
              have H9 : Hid (g9 < w9.heap.size ∧ (∀ i, i < S - c → w9.cell? ⟨g9, i, none⟩ = some (.int .i64 (Pl.ans (uk F) R (rk G) (c + i)))) ∧ Below w8.heap.size w8 w9) := ⟨h91, h92, h93⟩
              clear h91 h92 h93
              go_wp2_with fail
              go_meet
              case rel => exact ⟨g9, rfl, H9⟩
          case rest =>
            obtain ⟨g9, rfl, H9⟩ := hcut
            have HALL9 : Hid (All w wc g3 ra sa R S F G) := (HALLr.out.go HG8.out.2.2.2).go H9.out.2.2
            have HPRE9 : Hid (Pre wc g6 R c F G) := (HPREr.out.go HG8.out.2.2.2).go H9.out.2.2
            obtain ⟨n2, hn2⟩ : ∃ n2, n2 = S - c := ⟨_, rfl⟩
            rw [← hn2] at H9 ⊢
            have hSn : (S : Int) = (c : Int) + (n2 : Int) := by omega
            have HSn : Hid ((S : Int) = (c : Int) + (n2 : Int)) := hSn
            have hne2 : (((n2 : Nat) : Int) != (S : Int) - (c : Int)) = false := by rw [hSn]; simp; omega
            have hn2le : n2 ≤ 4096 := by omega
            clear hSn hn2 HALLr HPREr HG8 HTAIL hRK hM'
            go_wp2
            go_loopw [25] (fun i wr => ∃ m : Nat, m ≤ c ∧ i = .int .i64 m ∧ Hid (Below wc.heap.size wc wr)) (fun i _ => c - (intOf i).toNat)
            case atStart => exact ⟨0, Nat.zero_le _, rfl, Below.refl _ _⟩
            case round =>
              obtain ⟨m, hm, rfl, hM⟩ := hrel
              by_cases hmc : m < c
              · have hmc' : (m : Int) < (c : Int) := by omega
                have hmS' : (m : Int) < (S : Int) := by omega
                have q6 := (HPRE9.out.go hM.out).ans m hmc
                have q3 := (HALL9.out.go hM.out).ans m (by omega)
                go_wp2_with fail
                go_quiet (fail)
                go_wp2
                go_roundw
                case rel => exact ⟨m + 1, by omega, by go_num, hM.out.trans ((bel_drewN _ _).mono hM.out.size)⟩
                case measure => simp [intOf]; omega
              · have HM : Hid (Below wc.heap.size wc wr) := hM
                clear hM hm
                go_wp2
                clear hmc
                go_loopw [26] (fun i wr => ∃ m : Nat, m ≤ n2 ∧ i = .int .i64 m ∧ Hid (Below wc.heap.size wc wr)) (fun i _ => n2 - (intOf i).toNat)
                case atStart => exact ⟨0, Nat.zero_le _, rfl, HM⟩
                case round =>
                  clear HM
                  obtain ⟨m, hm, rfl, hM⟩ := hrel
                  by_cases hmc : m < n2
                  · have hmc' : (m : Int) < (n2 : Int) := by omega
                    have hcm' : (c : Int) + (m : Int) < (S : Int) := by have := HSn.out; omega
                    have hcm0 : (0 : Int) ≤ (c : Int) + (m : Int) := by omega
                    have q9 : wr.cell? ⟨g9, m, none⟩ = some (.int .i64 (Pl.ans (uk F) R (rk G) (c + m))) := (hM.out.cell (p := ⟨g9, m, none⟩) H9.out.1).trans (H9.out.2.1 m hmc)
                    have q3 := (HALL9.out.go hM.out).ans (c + m) (by have := HSn.out; omega)
                    have hwr : IntKind.i64.wrap ((c : Int) + (m : Int)) = (c : Int) + (m : Int) := by rw [IntKind.wrap_i64]; omega
                    have htn : ((c : Int) + (m : Int)).toNat = c + m := by omega
                    go_wp2_with fail
                    go_quiet (fail)
                    go_wp2
                    go_roundw
                    case rel => exact ⟨m + 1, by omega, by go_num, hM.out.trans ((bel_drewN _ _).mono hM.out.size)⟩
                    case measure => simp [intOf]; omega
                  · go_wp2
                    go_ret
                    exact ⟨rfl, (HALL9.out.go hM.out).below⟩
end Go.Proofs.Qxb6629352a
