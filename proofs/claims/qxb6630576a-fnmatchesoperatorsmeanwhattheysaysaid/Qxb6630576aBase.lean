/-
  Seat b6630576a. THE SMALL FUNCTIONS: oneOf (11), requirement.matches (10), ZZnewReq1 (8), Labels.Matches (7).
-/
import Derived.Test.Qxb6630576aRows
import Derived.WalkKit
import Derived.WalkSpells
import Derived.WalkLawsBesides
import Derived.Deep.QuietTactic
import Derived.BigQuiet
import Derived.Deep.CutBlock
import Derived.Deep.DeepCutAuto
import Derived.Deep.MidRow
import Derived.Deep.Draws
import Derived.Maps.Own
import Derived.Maps.OwnSet
import Derived.Maps.Views
import Derived.Maps.StringElems
namespace Go.Proofs.Qxb6630576a
open Go.RowKit

/-- A slice of n one-cell values: of an empty one nothing is known of the address. -/
def Row (w : World) (ao : Option Addr) (n : Nat) (V : Nat → Value) : Prop := 0 < n → ∃ b off, ao = some ⟨b, off, none⟩ ∧ b < w.heap.size ∧ ∀ i, i < n → w.cell? ⟨b, off + i, none⟩ = some (V i)

theorem Row.below {w w' : World} {ao : Option Addr} {n : Nat} {V : Nat → Value} (h : Row w ao n V) (hb : Below w.heap.size w w') : Row w' ao n V := fun hn => by
  obtain ⟨b, off, e, hl, hc⟩ := h hn
  exact ⟨b, off, e, Nat.lt_of_lt_of_le hl hb.size, fun i hi => (hb.cell (p := ⟨b, off + i, none⟩) hl).trans (hc i hi)⟩

/-- The map holds (or lacks) the key, here and in every world in which the old blocks are as they were. -/
def Looks (w : World) (mv : Value) (key val : ByteArray) (ok : Bool) : Prop :=
  ∀ w', Below w.heap.size w w' → (Instr.lookup 25 mv (.string key) true).run Try.prog w' = .ok (.tuple #[.string val, .bool ok]) w'

theorem Looks.below {w w' : World} {mv : Value} {key val : ByteArray} {ok : Bool} (h : Looks w mv key val ok) (hb : Below w.heap.size w w') : Looks w' mv key val ok :=
  fun w2 h2 => h w2 (hb.trans (h2.mono hb.size))

/-- Among the first n values is s. -/
def has (V : Nat → ByteArray) (s : ByteArray) : Nat → Bool
  | 0 => false
  | n + 1 => has V s n || ((V n).toList == s.toList)

theorem has_of {V : Nat → ByteArray} {s : ByteArray} {j : Nat} (e : ((V j).toList == s.toList) = true) : ∀ n, j < n → has V s n = true
  | 0, h => absurd h (by omega)
  | n + 1, h => by
    by_cases hj : j = n
    · subst hj; simp [has, e]
    · simp [has, has_of e n (by omega)]

/-- What an operator says. -/
def means (op : Int) (ok h : Bool) : Bool := if op = 0 then ok else if op = 1 then !ok else if op = 2 ∨ op = 4 then (ok && h) else !(ok && h)

set_option maxHeartbeats 400000 in
theorem oneOf_any (s : ByteArray) (ao : Option Addr) (n cap : Nat) (V : Nat → ByteArray) (w : World) (hn : n ≤ 4096) (hV : Row w ao n (fun i => .string (V i))) :
    Calls Try.prog 11 #[.string s, .slice ao n cap] w fun e w' => e = .returned (.bool (has V s n)) ∧ w' = w := by
  have HV : Hid (Row w ao n (fun i => .string (V i))) := hV
  clear hV
  go_enter Try.func11, Try.ntmps11
  go_wp2
  go_loop [9] (fun v => ∃ k : Nat, k ≤ n ∧ v = .int .i64 k ∧ Hid (has V s k = false)) (fun v => n - (intOf v).toNat)
  case atStart => exact ⟨0, Nat.zero_le _, rfl, rfl⟩
  case round =>
    obtain ⟨k, hk, rfl, hH⟩ := hrel
    by_cases hlt : k < n
    · have hlt' : (k : Int) < (n : Int) := by omega
      have hk1 : (0 : Int) ≤ (k : Int) := by omega
      obtain ⟨b, off, rfl, _, hc⟩ := HV.out (by omega)
      have d := hc k hlt
      clear hc
      by_cases he : ((V k).toList == s.toList) = true
      · have HF : Hid (has V s n = true) := has_of he n hlt
        go_wp2
        go_ret
        rw [HF.out]
        exact ⟨rfl, rfl⟩
      · have he' : ((V k).toList == s.toList) = false := by simpa using he
        have HK : Hid (has V s (k + 1) = false) := by simp [Hid, has, hH.out, he']
        clear he
        go_wp2
        go_round
        case rel => exact ⟨k + 1, by omega, by go_num, HK⟩
        case measure => simp [intOf]; omega
    · go_wp2
      go_ret
      obtain rfl : k = n := by omega
      rw [hH.out]
      exact ⟨rfl, rfl⟩

def ReqP (w : World) (key : ByteArray) (op : Int) (ao : Option Addr) (n cap : Nat) (e : Ending) (w' : World) : Prop :=
  ∃ g, e = .returned (.agg #[.slice (some ⟨g, 0, none⟩) 1 1]) ∧ g < w'.heap.size ∧ w'.cell? ⟨g, 0, none⟩ = some (.string key) ∧ w'.cell? ⟨g, 1, none⟩ = some (.int .i64 op) ∧ w'.cell? ⟨g, 2, none⟩ = some (.slice ao n cap) ∧ Below w.heap.size w w'

set_option maxHeartbeats 400000 in
theorem req_any (key : ByteArray) (op : Int) (ao : Option Addr) (n cap : Nat) (w : World) :
    Calls Try.prog 8 #[.string key, .int .i64 op, .slice ao n cap] w (ReqP w key op ao n cap) := by
  go_enter Try.func8, Try.ntmps8
  go_wp2
  have hb : Below w.heap.size w ((w.alloc (Obj.cells #[Value.slice (some ⟨w.heap.size + 1, 0, none⟩) 1 1] 29)).alloc (Obj.cells #[Value.string key, Value.int IntKind.i64 op, Value.slice ao n cap] 39)) := ((Below.refl _ _).alloc (Nat.le_refl _) _).alloc (by simp) _
  have hsz : (w.alloc (Obj.cells #[Value.slice (some ⟨w.heap.size + 1, 0, none⟩) 1 1] 29)).heap.size = w.heap.size + 1 := by simp
  have hn : ∀ i, ((w.alloc (Obj.cells #[Value.slice (some ⟨w.heap.size + 1, 0, none⟩) 1 1] 29)).alloc (Obj.cells #[Value.string key, Value.int IntKind.i64 op, Value.slice ao n cap] 39)).cell? ⟨w.heap.size + 1, i, none⟩ = #[Value.string key, Value.int IntKind.i64 op, Value.slice ao n cap][i]? := fun i => World.cell?_alloc_at _ _ _ _ hsz.symm
  refine bodyPost_ret (results_cell_row (d := _) rfl _ _ w.heap.size 29 #[Value.slice (some ⟨w.heap.size + 1, 0, none⟩) 1 1] (0, 0) rfl ?_ Try.underlying29 rfl (by kernel_rfl)) rfl ⟨w.heap.size + 1, rfl, by simp, hn 0, hn 1, hn 2, hb⟩
  rw [heap_alloc_old _ _ (by simp), heap_alloc_new]

/-- What the call of a matcher leaves. -/
def SaysP (w : World) (v : Bool) (e : Ending) (w' : World) : Prop := e = .returned (.bool v) ∧ Below w.heap.size w w'

set_option maxRecDepth 10000 in
set_option maxHeartbeats 1000000 in
theorem reqMatches_any (key val : ByteArray) (ok : Bool) (op : Int) (hop : op = 0 ∨ op = 1 ∨ op = 2 ∨ op = 3 ∨ op = 4 ∨ op = 5) (ao : Option Addr) (n cap : Nat) (V : Nat → ByteArray) (mv : Value) (w : World) (hn : n ≤ 4096) (hV : Row w ao n (fun i => .string (V i))) (hL : Looks w mv key val ok) :
    Calls Try.prog 10 #[.agg #[.string key, .int .i64 op, .slice ao n cap], mv] w (SaysP w (means op ok (has V val n))) := by
  have HV : Hid (Row w ao n (fun i => .string (V i))) := hV
  have HL : Hid (Looks w mv key val ok) := hL
  clear hV hL
  have hb0 : Hid (∀ o, Below w.heap.size w (w.alloc o)) := fun o => (Below.refl _ _).alloc (Nat.le_refl _) _
  have hlk : (Instr.lookup 25 mv (.string key) true).run Try.prog (w.alloc (.cells #[.string key, .int .i64 op, .slice ao n cap] 39)) = .ok (.tuple #[.string val, .bool ok]) (w.alloc (.cells #[.string key, .int .i64 op, .slice ao n cap] 39)) := HL.out _ (hb0.out _)
  rcases hop with rfl | rfl | rfl | rfl | rfl | rfl
  · go_enter Try.func10, Try.ntmps10
    go_wp2
    go_ret
    exact ⟨rfl, hb0.out _⟩
  · go_enter Try.func10, Try.ntmps10
    go_wp2
    go_ret
    exact ⟨rfl, hb0.out _⟩
  · cases ok
    · go_enter Try.func10, Try.ntmps10
      go_wp2
      go_ret
      exact ⟨rfl, hb0.out _⟩
    · go_enter Try.func10, Try.ntmps10
      go_wp2_with fail
      refine (oneOf_any val ao n cap V _ hn (HV.out.below (hb0.out _))).mono ?_
      rintro e w' ⟨rfl, rfl⟩
      go_wp2
      go_ret
      exact ⟨rfl, hb0.out _⟩
  · cases ok
    · go_enter Try.func10, Try.ntmps10
      go_wp2
      go_ret
      exact ⟨rfl, hb0.out _⟩
    · go_enter Try.func10, Try.ntmps10
      go_wp2_with fail
      refine (oneOf_any val ao n cap V _ hn (HV.out.below (hb0.out _))).mono ?_
      rintro e w' ⟨rfl, rfl⟩
      go_wp2
      go_ret
      exact ⟨rfl, hb0.out _⟩
  · cases ok
    · go_enter Try.func10, Try.ntmps10
      go_wp2
      go_ret
      exact ⟨rfl, hb0.out _⟩
    · go_enter Try.func10, Try.ntmps10
      go_wp2_with fail
      refine (oneOf_any val ao n cap V _ hn (HV.out.below (hb0.out _))).mono ?_
      rintro e w' ⟨rfl, rfl⟩
      go_wp2
      go_ret
      exact ⟨rfl, hb0.out _⟩
  · cases ok
    · go_enter Try.func10, Try.ntmps10
      go_wp2
      go_ret
      exact ⟨rfl, hb0.out _⟩
    · go_enter Try.func10, Try.ntmps10
      go_wp2_with fail
      refine (oneOf_any val ao n cap V _ hn (HV.out.below (hb0.out _))).mono ?_
      rintro e w' ⟨rfl, rfl⟩
      go_wp2
      go_ret
      exact ⟨rfl, hb0.out _⟩

set_option maxRecDepth 10000 in
set_option maxHeartbeats 1000000 in
theorem matches_any (g : Nat) (key val : ByteArray) (ok : Bool) (op : Int) (hop : op = 0 ∨ op = 1 ∨ op = 2 ∨ op = 3 ∨ op = 4 ∨ op = 5) (ao : Option Addr) (n cap : Nat) (V : Nat → ByteArray) (mv : Value) (w : World) (hn : n ≤ 4096) (hg : g < w.heap.size)
    (c0 : w.cell? ⟨g, 0, none⟩ = some (.string key)) (c1 : w.cell? ⟨g, 1, none⟩ = some (.int .i64 op)) (c2 : w.cell? ⟨g, 2, none⟩ = some (.slice ao n cap))
    (hV : Row w ao n (fun i => .string (V i))) (hL : Looks w mv key val ok) :
    Calls Try.prog 7 #[.agg #[.slice (some ⟨g, 0, none⟩) 1 1], mv] w (SaysP w (means op ok (has V val n))) := by
  have HV : Hid (Row w ao n (fun i => .string (V i))) := hV
  have HL : Hid (Looks w mv key val ok) := hL
  have HO : Hid (op = 0 ∨ op = 1 ∨ op = 2 ∨ op = 3 ∨ op = 4 ∨ op = 5) := hop
  clear hV hL hop
  go_enter Try.func7, Try.ntmps7
  go_wp2
  refine wp_loop_rounds 2 ?_
  rw [rounds_succ]
  go_wp2_with fail
  have hB : Hid (∀ o o', Below w.heap.size w ((w.alloc o).alloc o')) := fun o o' => ((Below.refl _ _).alloc (Nat.le_refl _) _).alloc (by simp) _
  refine (reqMatches_any key val ok op HO.out ao n cap V mv _ hn (HV.out.below (hB.out _ _)) (HL.out.below (hB.out _ _))).mono ?_
  rintro e w' ⟨rfl, hb⟩
  have HB : Hid (Below w.heap.size w w') := (hB.out _ _).trans (hb.mono (hB.out _ _).size)
  clear hb hB
  cases hm : means op ok (has V val n)
  · have Hm : Hid (means op ok (has V val n) = false) := hm
    clear hm
    go_wp2
    go_ret
    exact ⟨by rw [Hm.out]; rfl, HB.out⟩
  · have Hm : Hid (means op ok (has V val n) = true) := hm
    clear hm
    go_wp2
    rw [rounds_succ]
    go_wp2
    go_ret
    exact ⟨by rw [Hm.out]; rfl, HB.out⟩
end Go.Proofs.Qxb6630576a
