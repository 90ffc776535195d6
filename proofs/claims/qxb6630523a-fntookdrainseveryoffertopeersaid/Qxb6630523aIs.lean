/-
  Seat b6630523a. THE WALK of spreadIs (9) and of the law's length guard laid by program (5).
-/
import Derived.Test.Qxb6630523aNew
namespace Go.Proofs.Qxb6630523a
open Go.RowKit
attribute [local go_sem ↓] Go.wp_at_zero Go.wp_at_succ

theorem grown_of_below {w w' : World} (h : Below w.heap.size w w') : w.grownBy w' none := ⟨h.os, h.tape, h.output, h.size, fun k hk _ => h.block k hk⟩
theorem bel_drewN (w : World) (n : Nat) : Below w.heap.size w (w.drewN n) := below_drewN (Below.refl _ _) n

/-- The guard: some bool, the world as it was. -/
def SomeBool (w : World) (e : Ending) (w' : World) : Prop := ∃ v, e = .returned (.bool v) ∧ w = w'

set_option maxRecDepth 20000 in
set_option maxHeartbeats 4000000 in
theorem bytes_any (a0 a1 a2 a3 a4 : Option Addr) (n0 n1 n2 n3 n4 k0 k1 k2 k3 k4 : Nat) (d s l i : Int) (w : World) :
    Calls Try.prog 5 #[.slice a0 n0 k0, .slice a1 n1 k1, .slice a2 n2 k2, .slice a3 n3 k3, .slice a4 n4 k4, .int .i64 d, .int .i64 s, .int .i64 l, .int .i64 i] w (SomeBool w) := by
  go_enter Try.func5, Try.ntmps5
  go_wp2
  all_goals first | (go_ret; exact ⟨_, rfl, rfl⟩) | skip

def IsP (w : World) (e : Ending) (w' : World) : Prop := e = .returned (.bool true) ∧ Below w.heap.size w w'

set_option maxRecDepth 10000 in
set_option maxHeartbeats 1000000 in
theorem is_any {w : World} {p g1 g2 n : Nat} {oa : Option Addr} {m oc : Nat} {delay start last : Int} {rt ag : Nat → Bool} {P pe of : Nat → Int} (hs : Sp w p g1 g2 n oa m oc delay start last rt ag P pe of)
    (a0 a1 a2 a3 a4 : Option Addr) (k0 k1 k2 k3 k4 : Nat) (hn : n ≤ 4096) (hm : m ≤ 65536)
    (r0 : Row w a0 n (fun i => .bool (rt i))) (r1 : Row w a1 n (fun i => .int .u8 (P i))) (r2 : Row w a2 n (fun i => .int .i64 (pe i))) (r3 : Row w a3 n (fun i => .bool (ag i))) (r4 : Row w a4 m (fun i => .int .i64 (of i))) :
    Calls Try.prog 9 #[.pointer (some ⟨p, 0, none⟩), .slice a0 n k0, .slice a1 n k1, .slice a2 n k2, .slice a3 n k3, .slice a4 m k4, .int .i64 delay, .int .i64 start, .int .i64 last] w (IsP w) := by
  have HS : Hid (Sp w p g1 g2 n oa m oc delay start last rt ag P pe of) := hs
  have HR : Hid (Row w a0 n (fun i => .bool (rt i)) ∧ Row w a1 n (fun i => .int .u8 (P i)) ∧ Row w a2 n (fun i => .int .i64 (pe i)) ∧ Row w a3 n (fun i => .bool (ag i)) ∧ Row w a4 m (fun i => .int .i64 (of i))) := ⟨r0, r1, r2, r3, r4⟩
  clear hs r0 r1 r2 r3 r4
  have hnn : ((n : Int) != (n : Int)) = false := by simp
  have hmm : ((m : Int) != (m : Int)) = false := by simp
  have hdd : (delay != delay) = false := by simp
  have hss : (start != start) = false := by simp
  have hll : (last != last) = false := by simp
  go_enter Try.func9, Try.ntmps9
  go_wp2_with fail
  refine (nslots_any HS.out).mono ?_
  rintro e w' ⟨rfl, rfl⟩
  go_wp2_with fail
  refine (nstate_any HS.out).mono ?_
  rintro e w' ⟨rfl, rfl⟩
  go_wp2_with fail
  refine (noffered_any HS.out).mono ?_
  rintro e w' ⟨rfl, rfl⟩
  go_wp2_with fail
  refine (delay_any HS.out).mono ?_
  rintro e w' ⟨rfl, rfl⟩
  go_wp2_with fail
  refine (start_any HS.out).mono ?_
  rintro e w' ⟨rfl, rfl⟩
  go_wp2_with fail
  refine (last_any HS.out).mono ?_
  rintro e w' ⟨rfl, rfl⟩
  go_wp2
  go_loopw [20] (fun v wr => ∃ k : Nat, k ≤ n ∧ v = .int .i64 k ∧ Hid (Below w'.heap.size w' wr)) (fun v _ => n - (intOf v).toNat)
  case atStart => exact ⟨0, Nat.zero_le _, rfl, Below.refl _ _⟩
  case round =>
    obtain ⟨k, hk, rfl, hW⟩ := hrel
    by_cases hlt : k < n
    · have hlt' : (k : Int) < (n : Int) := by omega
      have hk1 : (0 : Int) ≤ (k : Int) := by omega
      obtain ⟨b0, o0, rfl, l0, c0⟩ := HR.out.1 (by omega)
      obtain ⟨b1, o1, rfl, l1, c1⟩ := HR.out.2.1 (by omega)
      obtain ⟨b2, o2, rfl, l2, c2⟩ := HR.out.2.2.1 (by omega)
      obtain ⟨b3, o3, rfl, l3, c3⟩ := HR.out.2.2.2.1 (by omega)
      have d0 : wr.cell? ⟨b0, o0 + k, none⟩ = some (.bool (rt k)) := (hW.out.cell l0).trans (c0 k hlt)
      have d1 : wr.cell? ⟨b1, o1 + k, none⟩ = some (.int .u8 (P k)) := (hW.out.cell l1).trans (c1 k hlt)
      have d2 : wr.cell? ⟨b2, o2 + k, none⟩ = some (.int .i64 (pe k)) := (hW.out.cell l2).trans (c2 k hlt)
      have d3 : wr.cell? ⟨b3, o3 + k, none⟩ = some (.bool (ag k)) := (hW.out.cell l3).trans (c3 k hlt)
      have HSq : Hid (∀ q, Sp (wr.drewN q) p g1 g2 n oa m oc delay start last rt ag P pe of) := fun q => (HS.out.kept (grown_of_below hW.out)).kept (grown_of_below (bel_drewN _ _))
      clear c0 c1 c2 c3 l0 l1 l2 l3
      have h1 : (rt k != rt k) = false := by simp
      have h2 : (P k != P k) = false := by simp
      have h3 : (pe k != pe k) = false := by simp
      have h4 : (ag k != ag k) = false := by simp
      go_wp2_with fail
      go_quiet ((first | (go_at_call 16; exact Calls.quiet_of_same (retry_any (HSq.out _) k hlt))))
      have hB' : Below wr.heap.size wr (wr.drewN nq) := bel_drewN _ _
      replace d1 : (wr.drewN nq).cell? ⟨b1, o1 + k, none⟩ = some (.int .u8 (P k)) := (hB'.cell (World.block_lt_of_cell? _ _ d1)).trans d1
      replace d2 : (wr.drewN nq).cell? ⟨b2, o2 + k, none⟩ = some (.int .i64 (pe k)) := (hB'.cell (World.block_lt_of_cell? _ _ d2)).trans d2
      replace d3 : (wr.drewN nq).cell? ⟨b3, o3 + k, none⟩ = some (.bool (ag k)) := (hB'.cell (World.block_lt_of_cell? _ _ d3)).trans d3
      have HSqq : Hid (∀ q, Sp ((wr.drewN nq).drewN q) p g1 g2 n oa m oc delay start last rt ag P pe of) := fun q' => (HSq.out nq).kept (grown_of_below (bel_drewN _ _))
      replace hW : Hid (Below w'.heap.size w' (wr.drewN nq)) := hW.out.trans (hB'.mono hW.out.size)
      clear hB' d0 HSq
      generalize wr.drewN nq = wd at *
      go_wp2_with fail
      go_quiet ((first | (go_at_call 13; exact Calls.quiet_of_same (phase_any (HSqq.out _) k hlt)) | (go_at_call 14; exact Calls.quiet_of_same (peer_any (HSqq.out _) k hlt)) | (go_at_call 15; exact Calls.quiet_of_same (again_any (HSqq.out _) k hlt))))
      go_wp2
      go_roundw
      case rel => exact ⟨k + 1, by omega, by go_num, hW.out.trans ((bel_drewN _ _).mono hW.out.size)⟩
      case measure => simp [intOf]; omega
    · go_wp2
      clear hlt hk hnn hdd hss hll
      obtain ⟨wm, hwm⟩ : ∃ x, x = wr := ⟨_, rfl⟩
      subst hwm
      go_loopw [21] (fun v wr => ∃ j : Nat, j ≤ m ∧ v = .int .i64 j ∧ Hid (Below w'.heap.size w' wr)) (fun v _ => m - (intOf v).toNat)
      case atStart => exact ⟨0, Nat.zero_le _, rfl, hW⟩
      case round =>
        clear hW
        obtain ⟨j, hj, rfl, hW⟩ := hrel
        by_cases hlt : j < m
        · have hlt' : (j : Int) < (m : Int) := by omega
          have hk1 : (0 : Int) ≤ (j : Int) := by omega
          obtain ⟨b4, o4, rfl, l4, c4⟩ := HR.out.2.2.2.2 (by omega)
          have d4 : wr.cell? ⟨b4, o4 + j, none⟩ = some (.int .i64 (of j)) := (hW.out.cell l4).trans (c4 j hlt)
          have HSq : Hid (∀ q, Sp (wr.drewN q) p g1 g2 n oa m oc delay start last rt ag P pe of) := fun q => (HS.out.kept (grown_of_below hW.out)).kept (grown_of_below (bel_drewN _ _))
          clear c4 l4
          have h1 : (of j != of j) = false := by simp
          go_wp2_with fail
          go_quiet ((first | (go_at_call 21; exact Calls.quiet_of_same (offered_any (HSq.out _) j hlt))))
          go_wp2
          go_roundw
          case rel => exact ⟨j + 1, by omega, by go_num, hW.out.trans ((by first | exact bel_drewN _ _ | (rw [World.drewN_drewN]; exact bel_drewN _ _) : Below wr.heap.size wr _).mono hW.out.size)⟩
          case measure => simp [intOf]; omega
        · go_wp2
          go_ret
          exact ⟨rfl, hW.out⟩
end Go.Proofs.Qxb6630523a
