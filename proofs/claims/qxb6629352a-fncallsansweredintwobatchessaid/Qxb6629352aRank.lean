/-
  Seat b6629352a. THE WALKS of zzRankOf (11), zzRankAnswer (9), zzCallsOf (12).
-/
import Derived.Test.Qxb6629352aBase
import Derived.Test.Qxb6629352aPlain
namespace Go.Proofs.Qxb6629352a
open Go.RowKit

/-- 'tool_use', 'tool_result'. -/
def isUse (b : Blk) : Bool := b.ty.toList == [116, 111, 111, 108, 95, 117, 115, 101]
def isRes (b : Blk) : Bool := b.ty.toList == [116, 111, 111, 108, 95, 114, 101, 115, 117, 108, 116]
/-- The key of a call, of a result. -/
def uk (F : Nat → Blk) (j : Nat) : Option (List UInt8) := if isUse (F j) then some (F j).id.toList else none
def rk (G : Nat → Blk) (j : Nat) : Option (List UInt8) := if isRes (G j) then some (G j).tu.toList else none

theorem uk_hit {F : Nat → Blk} {j : Nat} {key : List UInt8} (h : isUse (F j) = true) (he : ((F j).id.toList == key) = true) : uk F j = some key := by
  simp only [uk, h, if_true]; rw [eq_of_beq he]
theorem uk_other {F : Nat → Blk} {j : Nat} {key : List UInt8} (he : ((F j).id.toList == key) = false) : uk F j ≠ some key := by
  unfold uk; split
  · intro h; injection h with h; rw [h] at he; simp at he
  · simp
theorem uk_not {F : Nat → Blk} {j : Nat} {key : List UInt8} (h : isUse (F j) = false) : uk F j ≠ some key := by simp [uk, h]
theorem rk_hit {G : Nat → Blk} {j : Nat} {key : List UInt8} (h : isRes (G j) = true) (he : ((G j).tu.toList == key) = true) : rk G j = some key := by
  simp only [rk, h, if_true]; rw [eq_of_beq he]
theorem rk_other {G : Nat → Blk} {j : Nat} {key : List UInt8} (he : ((G j).tu.toList == key) = false) : rk G j ≠ some key := by
  unfold rk; split
  · intro h; injection h with h; rw [h] at he; simp at he
  · simp
theorem rk_not {G : Nat → Blk} {j : Nat} {key : List UInt8} (h : isRes (G j) = false) : rk G j ≠ some key := by simp [rk, h]

theorem ret_int {k : IntKind} {a b : Int} (h : a = b) : Ending.returned (.int k a) = .returned (.int k b) := by rw [h]

set_option maxRecDepth 10000 in
set_option maxHeartbeats 800000 in
theorem rankOf_any (b off n cap i : Nat) (G : Nat → Blk) (w : World) (hn : n ≤ 4096) (hi : i < n) (hG : Blocks w b off n G) :
    Calls Try.prog 11 #[.slice (some ⟨b, off, none⟩) n cap, .int .i64 i] w fun e w' => e = .returned (.int .i64 (Pl.cnt (rk G) (G i).tu.toList i)) ∧ ∃ q, w' = w.drewN q := by
  have HG : Hid (Blocks w b off n G) := hG
  clear hG
  go_enter Try.func11, Try.ntmps11
  go_wp2
  go_loopw [5, 6] (fun r j wr => ∃ (m q s : Nat), m ≤ i ∧ j = .int .i64 m ∧ r = .int .i64 s ∧ s ≤ m ∧ wr = w.drewN q ∧ Hid (s = Pl.cnt (rk G) (G i).tu.toList m)) (fun _ j _ => i - (intOf j).toNat)
  case atStart => exact ⟨0, 0, 0, Nat.zero_le _, rfl, rfl, by omega, rfl, rfl⟩
  case round =>
    obtain ⟨m, q, s, hm, rfl, rfl, hs, rfl, hS⟩ := hrel
    by_cases hlt : m < i
    · have hlt' : (m : Int) < (n : Int) := by omega
      have hi' : (i : Int) < (n : Int) := by omega
      have c0 := (HG.out.at (show m < n by omega)).1
      have c5 := (HG.out.at (show m < n by omega)).2.2.2.2.2.1
      have d5 := (HG.out.at hi).2.2.2.2.2.1
      go_wp2_with fail
      by_cases hr : isRes (G m) = true
      · have hr' : ((G m).ty.toList == [116, 111, 111, 108, 95, 114, 101, 115, 117, 108, 116]) = true := hr
        have HR : Hid (isRes (G m) = true) := hr
        clear hr
        cases he : ((G m).tu.toList == (G i).tu.toList)
        · have HE : Hid (((G m).tu.toList == (G i).tu.toList) = false) := he
          go_quiet (fail)
          go_wp2
          go_roundw
          case rel => exact ⟨m + 1, q + nq, s, by omega, by go_num, rfl, by omega, rfl, by rw [Pl.cnt_miss (rk_other HE.out)]; exact hS.out⟩
          case measure => simp [intOf]; omega
        · have HE : Hid (((G m).tu.toList == (G i).tu.toList) = true) := he
          go_quiet (fail)
          go_wp2
          go_roundw
          case rel => exact ⟨m + 1, q + nq, s + 1, by omega, by go_num, by go_num, by omega, rfl, by rw [Pl.cnt_hit (rk_hit HR.out HE.out), ← hS.out]; rfl⟩
          case measure => simp [intOf]; omega
      · have hr' : ((G m).ty.toList == [116, 111, 111, 108, 95, 114, 101, 115, 117, 108, 116]) = false := by simpa [isRes] using hr
        have HR : Hid (isRes (G m) = false) := hr'
        clear hr
        go_quiet (fail)
        go_wp2
        go_roundw
        case rel => exact ⟨m + 1, q + nq, s, by omega, by go_num, rfl, by omega, rfl, by rw [Pl.cnt_miss (rk_not HR.out)]; exact hS.out⟩
        case measure => simp [intOf]; omega
    · go_wp2
      go_ret
      obtain rfl : m = i := by omega
      exact ⟨ret_int (by rw [hS.out]), q, rfl⟩

set_option maxRecDepth 10000 in
set_option maxHeartbeats 800000 in
theorem callsOf_any (b off n cap : Nat) (F : Nat → Blk) (s0 : ByteArray) (w : World) (hn : n ≤ 4096) (hF : Blocks w b off n F) :
    Calls Try.prog 12 #[.slice (some ⟨b, off, none⟩) n cap, .string s0] w fun e w' => e = .returned (.int .i64 (Pl.cnt (uk F) s0.toList n)) ∧ w = w' := by
  have HG : Hid (Blocks w b off n F) := hF
  clear hF
  go_enter Try.func12, Try.ntmps12
  go_wp2
  go_loop [5, 6] (fun r j => ∃ (m s : Nat), m ≤ n ∧ j = .int .i64 m ∧ r = .int .i64 s ∧ s ≤ m ∧ Hid (s = Pl.cnt (uk F) s0.toList m)) (fun _ j => n - (intOf j).toNat)
  case atStart => exact ⟨0, 0, Nat.zero_le _, rfl, rfl, by omega, rfl⟩
  case round =>
    obtain ⟨m, s, hm, rfl, rfl, hs, hS⟩ := hrel
    by_cases hlt : m < n
    · have hlt' : (m : Int) < (n : Int) := by omega
      have c0 := (HG.out.at hlt).1
      have c2 := (HG.out.at hlt).2.2.1
      by_cases hr : isUse (F m) = true
      · have hr' : ((F m).ty.toList == [116, 111, 111, 108, 95, 117, 115, 101]) = true := hr
        have HR : Hid (isUse (F m) = true) := hr
        clear hr
        cases he : ((F m).id.toList == s0.toList)
        · have HE : Hid (((F m).id.toList == s0.toList) = false) := he
          go_wp2
          go_round
          case rel => exact ⟨m + 1, s, by omega, by go_num, rfl, by omega, by rw [Pl.cnt_miss (uk_other HE.out)]; exact hS.out⟩
          case measure => simp [intOf]; omega
        · have HE : Hid (((F m).id.toList == s0.toList) = true) := he
          go_wp2
          go_round
          case rel => exact ⟨m + 1, s + 1, by omega, by go_num, by go_num, by omega, by rw [Pl.cnt_hit (uk_hit HR.out HE.out), ← hS.out]; rfl⟩
          case measure => simp [intOf]; omega
      · have hr' : ((F m).ty.toList == [116, 111, 111, 108, 95, 117, 115, 101]) = false := by simpa [isUse] using hr
        have HR : Hid (isUse (F m) = false) := hr'
        clear hr
        go_wp2
        go_round
        case rel => exact ⟨m + 1, s, by omega, by go_num, rfl, by omega, by rw [Pl.cnt_miss (uk_not HR.out)]; exact hS.out⟩
        case measure => simp [intOf]; omega
    · go_wp2
      go_ret
      obtain rfl : m = n := by omega
      exact ⟨ret_int (by rw [hS.out]), rfl⟩

set_option maxRecDepth 10000 in
set_option maxHeartbeats 1000000 in
/-- zzRankAnswer, the reply not empty. -/
theorem rankAnswer_some (rb ro R rc sb so S sc i : Nat) (F G : Nat → Blk) (w : World) (hR : R ≤ 4096) (hS0 : S ≤ 4096) (hi : i < S) (hF : Blocks w rb ro R F) (hG : Blocks w sb so S G) :
    Calls Try.prog 9 #[.slice (some ⟨rb, ro, none⟩) R rc, .slice (some ⟨sb, so, none⟩) S sc, .int .i64 i] w fun e w' => e = .returned (.int .i64 (Pl.ans (uk F) R (rk G) i)) ∧ ∃ q, w' = w.drewN q := by
  have HF : Hid (Blocks w rb ro R F) := hF
  have HG : Hid (Blocks w sb so S G) := hG
  clear hF hG
  have hi' : (i : Int) < (S : Int) := by omega
  have d0 := (HG.out.at hi).1
  have d5 := (HG.out.at hi).2.2.2.2.2.1
  by_cases hr : isRes (G i) = true
  · have hr' : ((G i).ty.toList == [116, 111, 111, 108, 95, 114, 101, 115, 117, 108, 116]) = true := hr
    have HR : Hid (rk G i = some (G i).tu.toList) := by simp [Hid, rk, hr]
    clear hr
    go_enter Try.func9, Try.ntmps9
    go_wp2_with (go_at_call 11; refine (rankOf_any sb so S sc i G _ hS0 hi HG.out).mono ?_; rintro e w' ⟨rfl, q, rfl⟩)
    obtain ⟨rn, hrn⟩ : ∃ rn, rn = Pl.cnt (rk G) (G i).tu.toList i := ⟨_, rfl⟩
    rw [← hrn]
    have hrle : rn ≤ i := by rw [hrn]; exact Pl.cnt_le _ _ _
    have HRN : Hid (rn = Pl.cnt (rk G) (G i).tu.toList i) := hrn
    clear hrn
    go_loopw [7, 8] (fun kv j wr => ∃ (m q k : Nat), m ≤ R ∧ j = .int .i64 m ∧ kv = .int .i64 k ∧ k ≤ rn ∧ wr = w.drewN q ∧ Hid (k + Pl.cnt (uk F) (G i).tu.toList m = rn)) (fun _ j _ => R - (intOf j).toNat)
    case atStart => exact ⟨0, q, rn, Nat.zero_le _, rfl, rfl, by omega, rfl, rfl⟩
    case round =>
      obtain ⟨m, q, k, hm, rfl, rfl, hk, rfl, hS⟩ := hrel
      by_cases hlt : m < R
      · have hlt' : (m : Int) < (R : Int) := by omega
        have c0 := (HF.out.at hlt).1
        have c2 := (HF.out.at hlt).2.2.1
        go_wp2_with fail
        by_cases hu : isUse (F m) = true
        · have hu' : ((F m).ty.toList == [116, 111, 111, 108, 95, 117, 115, 101]) = true := hu
          have HU : Hid (isUse (F m) = true) := hu
          clear hu
          cases he : ((F m).id.toList == (G i).tu.toList)
          · have HE : Hid (((F m).id.toList == (G i).tu.toList) = false) := he
            go_quiet (fail)
            go_wp2
            go_roundw
            case rel => exact ⟨m + 1, q + nq, k, by omega, by go_num, rfl, by omega, rfl, by rw [Pl.cnt_miss (uk_other HE.out)]; exact hS.out⟩
            case measure => simp [intOf]; omega
          · have HE : Hid (((F m).id.toList == (G i).tu.toList) = true) := he
            by_cases hk0 : k = 0
            · subst hk0
              go_quiet (fail)
              go_wp2
              go_ret
              exact ⟨ret_int (Pl.ans_found HR.out hlt (uk_hit HU.out HE.out) (by have := hS.out; have := HRN.out; omega)).symm, _, rfl⟩
            · have hk0' : ((k : Int) == 0) = false := by simpa using hk0
              obtain ⟨k', rfl⟩ : ∃ k', k = k' + 1 := ⟨k - 1, by omega⟩
              go_quiet (fail)
              go_wp2
              go_roundw
              case rel => exact ⟨m + 1, q + nq, k', by omega, by go_num, by go_num, by omega, rfl, by rw [Pl.cnt_hit (uk_hit HU.out HE.out)]; have := hS.out; show _ = _; omega⟩
              case measure => simp [intOf]; omega
        · have hu' : ((F m).ty.toList == [116, 111, 111, 108, 95, 117, 115, 101]) = false := by simpa [isUse] using hu
          have HU : Hid (isUse (F m) = false) := hu'
          clear hu
          go_quiet (fail)
          go_wp2
          go_roundw
          case rel => exact ⟨m + 1, q + nq, k, by omega, by go_num, rfl, by omega, rfl, by rw [Pl.cnt_miss (uk_not HU.out)]; exact hS.out⟩
          case measure => simp [intOf]; omega
      · go_wp2
        go_ret
        obtain rfl : m = R := by omega
        exact ⟨ret_int (Pl.ans_miss HR.out (by have := hS.out; have := HRN.out; omega)).symm, _, rfl⟩
  · have hr' : ((G i).ty.toList == [116, 111, 111, 108, 95, 114, 101, 115, 117, 108, 116]) = false := by simpa [isRes] using hr
    have HR : Hid (rk G i = none) := by simp [Hid, rk, hr]
    clear hr
    go_enter Try.func9, Try.ntmps9
    go_wp2
    go_ret
    exact ⟨ret_int (Pl.ans_none HR.out).symm, 0, rfl⟩

set_option maxRecDepth 10000 in
set_option maxHeartbeats 800000 in
/-- zzRankAnswer, the reply empty. -/
theorem rankAnswer_none (ra : Option Addr) (rc sb so S sc i : Nat) (F G : Nat → Blk) (w : World) (hS0 : S ≤ 4096) (hi : i < S) (hG : Blocks w sb so S G) :
    Calls Try.prog 9 #[.slice ra 0 rc, .slice (some ⟨sb, so, none⟩) S sc, .int .i64 i] w fun e w' => e = .returned (.int .i64 (Pl.ans (uk F) 0 (rk G) i)) ∧ ∃ q, w' = w.drewN q := by
  have HG : Hid (Blocks w sb so S G) := hG
  clear hG
  have hi' : (i : Int) < (S : Int) := by omega
  have d0 := (HG.out.at hi).1
  by_cases hr : isRes (G i) = true
  · have hr' : ((G i).ty.toList == [116, 111, 111, 108, 95, 114, 101, 115, 117, 108, 116]) = true := hr
    have HR : Hid (rk G i = some (G i).tu.toList) := by simp [Hid, rk, hr]
    clear hr
    go_enter Try.func9, Try.ntmps9
    go_wp2_with (go_at_call 11; refine (rankOf_any sb so S sc i G _ hS0 hi HG.out).mono ?_; rintro e w' ⟨rfl, q, rfl⟩)
    refine wp_loop_rounds 1 ?_
    rw [rounds_succ]
    go_wp2
    go_ret
    exact ⟨ret_int (Pl.ans_miss HR.out (by simp [Pl.cnt])).symm, _, rfl⟩
  · have hr' : ((G i).ty.toList == [116, 111, 111, 108, 95, 114, 101, 115, 117, 108, 116]) = false := by simpa [isRes] using hr
    have HR : Hid (rk G i = none) := by simp [Hid, rk, hr]
    clear hr
    go_enter Try.func9, Try.ntmps9
    go_wp2
    go_ret
    exact ⟨ret_int (Pl.ans_none HR.out).symm, 0, rfl⟩

/-- ████ zzRankAnswer. -/
theorem rankAnswer_any (ra : Option Addr) (R rc sb so S sc i : Nat) (F G : Nat → Blk) (w : World) (hR : R ≤ 4096) (hS0 : S ≤ 4096) (hi : i < S) (hF : Args w ra R F) (hG : Blocks w sb so S G) :
    Calls Try.prog 9 #[.slice ra R rc, .slice (some ⟨sb, so, none⟩) S sc, .int .i64 i] w fun e w' => e = .returned (.int .i64 (Pl.ans (uk F) R (rk G) i)) ∧ ∃ q, w' = w.drewN q := by
  by_cases h0 : R = 0
  · subst h0
    exact rankAnswer_none ra rc sb so S sc i F G w hS0 hi hG
  · obtain ⟨rb, ro, rfl, _, hB⟩ := hF (by omega)
    exact rankAnswer_some rb ro R rc sb so S sc i F G w hR hS0 hi hB hG

set_option maxHeartbeats 400000 in
theorem callsOf_none (ao : Option Addr) (cap : Nat) (s0 : ByteArray) (w : World) :
    Calls Try.prog 12 #[.slice ao 0 cap, .string s0] w fun e w' => e = .returned (.int .i64 0) ∧ w = w' := by
  go_enter Try.func12, Try.ntmps12
  go_wp2
  refine wp_loop_rounds 1 ?_
  rw [rounds_succ]
  go_wp2
  go_ret
  exact ⟨rfl, rfl⟩

/-- ████ zzCallsOf. -/
theorem callsOf (ao : Option Addr) (n cap : Nat) (F : Nat → Blk) (s0 : ByteArray) (w : World) (hn : n ≤ 4096) (hF : Args w ao n F) :
    Calls Try.prog 12 #[.slice ao n cap, .string s0] w fun e w' => e = .returned (.int .i64 (Pl.cnt (uk F) s0.toList n)) ∧ w = w' := by
  by_cases h0 : n = 0
  · subst h0
    exact callsOf_none ao cap s0 w
  · obtain ⟨rb, ro, rfl, _, hB⟩ := hF (by omega)
    exact callsOf_any rb ro n cap F s0 w hn hB
end Go.Proofs.Qxb6629352a
