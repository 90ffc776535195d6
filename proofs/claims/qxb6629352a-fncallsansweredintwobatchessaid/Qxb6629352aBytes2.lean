/-
  Seat b6629352a. THE WALK of the second law's length guard laid by program (10): it returns SOME bool and leaves the world as it was.
-/
import Derived.Test.Qxb6629352aBytes
namespace Go.Proofs.Qxb6629352a
open Go.RowKit

set_option maxRecDepth 20000 in
set_option maxHeartbeats 4000000 in
theorem bytes10_any (c : Int) (r1 r2 : ByteArray) (ao bo : Option Addr) (n m ca cb : Nat) (F G : Nat → Blk) (w : World) (hr1 : r1.size ≤ 9223372036854775807) (hr2 : r2.size ≤ 9223372036854775807) (hn : n ≤ 9223372036854775807) (hm : m ≤ 9223372036854775807)
    (hF : Args w ao n F) (hf : ∀ i, i < n → (F i).fits) (hG : Args w bo m G) (hg : ∀ i, i < m → (G i).fits) :
    Calls Try.prog 10 #[.string r1, .slice ao n ca, .string r2, .slice bo m cb, .int .i64 c] w fun e w' => SomeBool w e w' := by
  have H1 : Hid (Args w ao n F ∧ Args w bo m G ∧ (∀ i, i < n → (F i).fits) ∧ ∀ i, i < m → (G i).fits) := ⟨hF, hG, hf, hg⟩
  clear hF hG hf hg
  by_cases t1 : 1048576 < r1.size
  · go_enter Try.func10, Try.ntmps10
    go_wp2
    go_ret
    exact ⟨_, rfl, rfl⟩
  by_cases t2 : 1048576 < n
  · go_enter Try.func10, Try.ntmps10
    go_wp2
    go_ret
    exact ⟨_, rfl, rfl⟩
  by_cases t3 : 1048576 < r1.size + n
  · go_enter Try.func10, Try.ntmps10
    go_wp2
    go_ret
    exact ⟨_, rfl, rfl⟩
  go_enter Try.func10, Try.ntmps10
  go_wp2
  go_loop [11, 12] (fun z i => ∃ (k : Nat) (s : Int), k ≤ n ∧ i = .int .i64 k ∧ z = .int .i64 s ∧ 0 ≤ s ∧ s ≤ 1048576) (fun _ i => n - (intOf i).toNat)
  case atStart => exact ⟨0, r1.size + n, Nat.zero_le _, rfl, rfl, by omega, by omega⟩
  case round =>
    obtain ⟨k, s, hk, rfl, rfl, hs1, hs2⟩ := hrel
    by_cases hlt : k < n
    · have hlt' : (k : Int) < (n : Int) := by omega
      obtain ⟨b, off, rfl, _, hB⟩ := H1.out.1 (by omega)
      obtain ⟨c0, c1, c2, c3, c4, c5, c6, c7⟩ := hB.at hlt
      obtain ⟨f0, f1, f2, f3, f4, f5, f6⟩ := H1.out.2.2.1 k hlt
      clear hB
      go_wp2
      all_goals first | (go_ret; exact ⟨_, rfl, rfl⟩) | skip
      go_round
      case rel => exact ⟨k + 1, _, by omega, by go_num, rfl, by omega, by omega⟩
      case measure => simp [intOf]; omega
    · clear t1 t2 t3
      go_wp2
      all_goals first | (go_ret; exact ⟨_, rfl, rfl⟩) | skip
      go_loop [11, 13] (fun z i => ∃ (k : Nat) (s : Int), k ≤ m ∧ i = .int .i64 k ∧ z = .int .i64 s ∧ 0 ≤ s ∧ s ≤ 1048576) (fun _ i => m - (intOf i).toNat)
      case atStart => exact ⟨0, s + r2.size + m, Nat.zero_le _, rfl, rfl, by omega, by omega⟩
      case round =>
        have hm2 : m ≤ 1048576 := by omega
        clear hlt hk hs1 hs2
        obtain ⟨k, s, hk, rfl, rfl, hs1, hs2⟩ := hrel
        by_cases hlt : k < m
        · have hlt' : (k : Int) < (m : Int) := by omega
          obtain ⟨b, off, rfl, _, hB⟩ := H1.out.2.1 (by omega)
          obtain ⟨c0, c1, c2, c3, c4, c5, c6, c7⟩ := hB.at hlt
          obtain ⟨f0, f1, f2, f3, f4, f5, f6⟩ := H1.out.2.2.2 k hlt
          clear hB
          go_wp2
          all_goals first | (go_ret; exact ⟨_, rfl, rfl⟩) | skip
          go_round
          case rel => exact ⟨k + 1, _, by omega, by go_num, rfl, by omega, by omega⟩
          case measure => simp [intOf]; omega
        · go_wp2
          go_ret
          exact ⟨_, rfl, rfl⟩
end Go.Proofs.Qxb6629352a
