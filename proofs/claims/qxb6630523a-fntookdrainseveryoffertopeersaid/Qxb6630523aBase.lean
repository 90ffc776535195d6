/-
  Seat b6630523a. ROWS AND THE SPREAD IN MEMORY; the small functions that hand fields out (11 .. 21).
-/
import Derived.Test.Qxb6630523aRows
import Derived.Test.Qxb6630523aPlain
import Derived.WalkKit
import Derived.WalkSpells
import Derived.WalkLawsBesides
import Derived.Deep.QuietTactic
import Derived.BigQuiet
import Derived.Deep.CutBlock
import Derived.Deep.DeepCutAuto
import Derived.Deep.MidRow
import Derived.Deep.Draws
namespace Go.Proofs.Qxb6630523a
open Go.RowKit

/-- A slice of n one-cell values: of an empty one nothing is known of the address. -/
def Row (w : World) (ao : Option Addr) (n : Nat) (V : Nat → Value) : Prop := 0 < n → ∃ b off, ao = some ⟨b, off, none⟩ ∧ b < w.heap.size ∧ ∀ i, i < n → w.cell? ⟨b, off + i, none⟩ = some (V i)

theorem Row.below {w w' : World} {ao : Option Addr} {n : Nat} {V : Nat → Value} (h : Row w ao n V) (hb : Below w.heap.size w w') : Row w' ao n V := fun hn => by
  obtain ⟨b, off, e, hl, hc⟩ := h hn
  exact ⟨b, off, e, Nat.lt_of_lt_of_le hl hb.size, fun i hi => (hb.cell (p := ⟨b, off + i, none⟩) hl).trans (hc i hi)⟩

/-- A Spread in memory: block p; its slots in block g1, its state in block g2. -/
structure Sp (w : World) (p g1 g2 n : Nat) (oa : Option Addr) (m oc : Nat) (delay start last : Int) (rt ag : Nat → Bool) (P pe of : Nat → Int) : Prop where
  c0 : w.cell? ⟨p, 0, none⟩ = some (.slice (some ⟨g1, 0, none⟩) n n)
  c1 : w.cell? ⟨p, 1, none⟩ = some (.int .i64 delay)
  c2 : w.cell? ⟨p, 2, none⟩ = some (.int .i64 start)
  c3 : w.cell? ⟨p, 3, none⟩ = some (.int .i64 last)
  c4 : w.cell? ⟨p, 4, none⟩ = some (.slice (some ⟨g2, 0, none⟩) n n)
  c5 : w.cell? ⟨p, 5, none⟩ = some (.slice oa m oc)
  slots : ∀ k, k < n → w.cell? ⟨g1, k * 4, none⟩ = some (.int .u8 0) ∧ w.cell? ⟨g1, k * 4 + 1, none⟩ = some (.bool false) ∧ w.cell? ⟨g1, k * 4 + 2, none⟩ = some (.bool (rt k)) ∧ w.cell? ⟨g1, k * 4 + 3, none⟩ = some (.bool false)
  phase : ∀ k, k < n → w.cell? ⟨g2, k * 3, none⟩ = some (.int .u8 (P k))
  peer : ∀ k, k < n → w.cell? ⟨g2, k * 3 + 1, none⟩ = some (.int .i64 (pe k))
  again : ∀ k, k < n → w.cell? ⟨g2, k * 3 + 2, none⟩ = some (.bool (ag k))
  there : w.there g2 0 (n * 3)
  off : Row w oa m (fun k => .int .i64 (of k))
  lt : p < w.heap.size ∧ g1 < w.heap.size ∧ g2 < w.heap.size
  apart : p ≠ g2 ∧ g1 ≠ g2 ∧ ∀ b o, oa = some ⟨b, o, none⟩ → b ≠ g2

section
variable {w : World} {p g1 g2 n : Nat} {oa : Option Addr} {m oc : Nat} {delay start last : Int} {rt ag : Nat → Bool} {P pe of : Nat → Int}

set_option maxHeartbeats 400000 in
theorem nstate_any (h : Sp w p g1 g2 n oa m oc delay start last rt ag P pe of) : Calls Try.prog 11 #[.pointer (some ⟨p, 0, none⟩)] w fun e w' => e = .returned (.int .i64 n) ∧ w' = w := by
  have c := h.c4
  clear h
  go_enter Try.func11, Try.ntmps11
  go_wp2
  go_ret
  exact ⟨rfl, rfl⟩
set_option maxHeartbeats 400000 in
theorem nslots_any (h : Sp w p g1 g2 n oa m oc delay start last rt ag P pe of) : Calls Try.prog 12 #[.pointer (some ⟨p, 0, none⟩)] w fun e w' => e = .returned (.int .i64 n) ∧ w' = w := by
  have c := h.c0
  clear h
  go_enter Try.func12, Try.ntmps12
  go_wp2
  go_ret
  exact ⟨rfl, rfl⟩
set_option maxHeartbeats 400000 in
theorem phase_any (h : Sp w p g1 g2 n oa m oc delay start last rt ag P pe of) (k : Nat) (hk : k < n) : Calls Try.prog 13 #[.pointer (some ⟨p, 0, none⟩), .int .i64 k] w fun e w' => e = .returned (.int .u8 (P k)) ∧ w' = w := by
  have c := h.c4
  have d := h.phase k hk
  have hk' : (k : Int) < (n : Int) := by omega
  clear h
  go_enter Try.func13, Try.ntmps13
  go_wp2
  go_ret
  exact ⟨rfl, rfl⟩
set_option maxHeartbeats 400000 in
theorem peer_any (h : Sp w p g1 g2 n oa m oc delay start last rt ag P pe of) (k : Nat) (hk : k < n) : Calls Try.prog 14 #[.pointer (some ⟨p, 0, none⟩), .int .i64 k] w fun e w' => e = .returned (.int .i64 (pe k)) ∧ w' = w := by
  have c := h.c4
  have d := h.peer k hk
  have hk' : (k : Int) < (n : Int) := by omega
  clear h
  go_enter Try.func14, Try.ntmps14
  go_wp2
  go_ret
  exact ⟨rfl, rfl⟩
set_option maxHeartbeats 400000 in
theorem again_any (h : Sp w p g1 g2 n oa m oc delay start last rt ag P pe of) (k : Nat) (hk : k < n) : Calls Try.prog 15 #[.pointer (some ⟨p, 0, none⟩), .int .i64 k] w fun e w' => e = .returned (.bool (ag k)) ∧ w' = w := by
  have c := h.c4
  have d := h.again k hk
  have hk' : (k : Int) < (n : Int) := by omega
  clear h
  go_enter Try.func15, Try.ntmps15
  go_wp2
  go_ret
  exact ⟨rfl, rfl⟩
set_option maxHeartbeats 400000 in
theorem retry_any (h : Sp w p g1 g2 n oa m oc delay start last rt ag P pe of) (k : Nat) (hk : k < n) : Calls Try.prog 16 #[.pointer (some ⟨p, 0, none⟩), .int .i64 k] w fun e w' => e = .returned (.bool (rt k)) ∧ w' = w := by
  have c := h.c0
  have d := (h.slots k hk).2.2.1
  have hk' : (k : Int) < (n : Int) := by omega
  clear h
  go_enter Try.func16, Try.ntmps16
  go_wp2
  go_ret
  exact ⟨rfl, rfl⟩
set_option maxHeartbeats 400000 in
theorem noffered_any (h : Sp w p g1 g2 n oa m oc delay start last rt ag P pe of) : Calls Try.prog 17 #[.pointer (some ⟨p, 0, none⟩)] w fun e w' => e = .returned (.int .i64 m) ∧ w' = w := by
  have c := h.c5
  clear h
  go_enter Try.func17, Try.ntmps17
  go_wp2
  go_ret
  exact ⟨rfl, rfl⟩
set_option maxHeartbeats 400000 in
theorem delay_any (h : Sp w p g1 g2 n oa m oc delay start last rt ag P pe of) : Calls Try.prog 18 #[.pointer (some ⟨p, 0, none⟩)] w fun e w' => e = .returned (.int .i64 delay) ∧ w' = w := by
  have c := h.c1
  clear h
  go_enter Try.func18, Try.ntmps18
  go_wp2
  go_ret
  exact ⟨rfl, rfl⟩
set_option maxHeartbeats 400000 in
theorem start_any (h : Sp w p g1 g2 n oa m oc delay start last rt ag P pe of) : Calls Try.prog 19 #[.pointer (some ⟨p, 0, none⟩)] w fun e w' => e = .returned (.int .i64 start) ∧ w' = w := by
  have c := h.c2
  clear h
  go_enter Try.func19, Try.ntmps19
  go_wp2
  go_ret
  exact ⟨rfl, rfl⟩
set_option maxHeartbeats 400000 in
theorem last_any (h : Sp w p g1 g2 n oa m oc delay start last rt ag P pe of) : Calls Try.prog 20 #[.pointer (some ⟨p, 0, none⟩)] w fun e w' => e = .returned (.int .i64 last) ∧ w' = w := by
  have c := h.c3
  clear h
  go_enter Try.func20, Try.ntmps20
  go_wp2
  go_ret
  exact ⟨rfl, rfl⟩
set_option maxHeartbeats 400000 in
theorem offered_any (h : Sp w p g1 g2 n oa m oc delay start last rt ag P pe of) (k : Nat) (hk : k < m) : Calls Try.prog 21 #[.pointer (some ⟨p, 0, none⟩), .int .i64 k] w fun e w' => e = .returned (.int .i64 (of k)) ∧ w' = w := by
  have c := h.c5
  obtain ⟨b, off, rfl, _, hc⟩ := h.off (by omega)
  have d := hc k hk
  have hk' : (k : Int) < (m : Int) := by omega
  clear h hc
  go_enter Try.func21, Try.ntmps21
  go_wp2
  go_ret
  exact ⟨rfl, rfl⟩
end

/-- w' is w with new blocks, and with writes to block g alone. -/
theorem Sp.kept {w w' : World} {p g1 g2 n : Nat} {oa : Option Addr} {m oc : Nat} {delay start last : Int} {rt ag : Nat → Bool} {P pe of : Nat → Int} (h : Sp w p g1 g2 n oa m oc delay start last rt ag P pe of) (hg : w.grownBy w' none) : Sp w' p g1 g2 n oa m oc delay start last rt ag P pe of := by
  have hb : ∀ b, b < w.heap.size → w'.heap[b]? = w.heap[b]? := fun b hl => hg.block b hl (by simp)
  have hc : ∀ b o u, w.cell? ⟨b, o, none⟩ = some u → w'.cell? ⟨b, o, none⟩ = some u := fun b o u hu => hg.cell hu (by simp)
  refine ⟨hc _ _ _ h.c0, hc _ _ _ h.c1, hc _ _ _ h.c2, hc _ _ _ h.c3, hc _ _ _ h.c4, hc _ _ _ h.c5, fun k hk => ?_, fun k hk => hc _ _ _ (h.phase k hk), fun k hk => hc _ _ _ (h.peer k hk), fun k hk => hc _ _ _ (h.again k hk), fun j hj => ?_, fun hm => ?_, ⟨?_, ?_, ?_⟩, h.apart⟩
  · obtain ⟨q0, q1, q2, q3⟩ := h.slots k hk
    exact ⟨hc _ _ _ q0, hc _ _ _ q1, hc _ _ _ q2, hc _ _ _ q3⟩
  · rw [World.cell?_of_block (w := w) (a := ⟨g2, 0 + j, none⟩) (hb g2 h.lt.2.2), World.frozen?_of_block (w := w) (a := ⟨g2, 0 + j, none⟩) (hb g2 h.lt.2.2)]
    exact h.there j hj
  · obtain ⟨b, off, e, hl, hcc⟩ := h.off hm
    exact ⟨b, off, e, Nat.lt_of_lt_of_le hl hg.size, fun i hi => hc _ _ _ (hcc i hi)⟩
  · exact Nat.lt_of_lt_of_le h.lt.1 hg.size
  · exact Nat.lt_of_lt_of_le h.lt.2.1 hg.size
  · exact Nat.lt_of_lt_of_le h.lt.2.2 hg.size

end Go.Proofs.Qxb6630523a
