/-
  Seat b6629352a. THE BLOCKS IN MEMORY, and the walks of the size guards (5, 6, 10, 13, 14).
-/
import Derived.Test.Qxb6629352aRows
import Derived.WalkKit
import Derived.WalkSpells
import Derived.WalkLawsBesides
import Derived.Deep.QuietTactic
import Derived.BigQuiet
import Derived.Deep.CutBlock
import Derived.Deep.DeepCutAuto
import Derived.Deep.MidRow
import Derived.Deep.Draws
namespace Go.Proofs.Qxb6629352a
open Go.RowKit

/-- One block's eight fields. -/
structure Blk where
  ty : ByteArray
  text : ByteArray
  id : ByteArray
  name : ByteArray
  ia : Option Addr
  il : Nat
  ic : Nat
  tu : ByteArray
  content : ByteArray
  err : Bool

def Blk.cells (b : Blk) : List Value := [.string b.ty, .string b.text, .string b.id, .string b.name, .slice b.ia b.il b.ic, .string b.tu, .string b.content, .bool b.err]

/-- A row of n blocks from an address on. -/
def Blocks (w : World) (b off n : Nat) (F : Nat → Blk) : Prop := ∀ i, i < n → w.rangeAt b (off + i * 8) (F i).cells

theorem Blocks.at {w : World} {b off n : Nat} {F : Nat → Blk} (h : Blocks w b off n F) {i : Nat} (hi : i < n) :
    w.cell? ⟨b, off + i * 8, none⟩ = some (.string (F i).ty) ∧ w.cell? ⟨b, off + i * 8 + 1, none⟩ = some (.string (F i).text) ∧ w.cell? ⟨b, off + i * 8 + 2, none⟩ = some (.string (F i).id) ∧ w.cell? ⟨b, off + i * 8 + 3, none⟩ = some (.string (F i).name) ∧
    w.cell? ⟨b, off + i * 8 + 4, none⟩ = some (.slice (F i).ia (F i).il (F i).ic) ∧ w.cell? ⟨b, off + i * 8 + 5, none⟩ = some (.string (F i).tu) ∧ w.cell? ⟨b, off + i * 8 + 6, none⟩ = some (.string (F i).content) ∧ w.cell? ⟨b, off + i * 8 + 7, none⟩ = some (.bool (F i).err) :=
  ⟨by simpa using h i hi 0 _ rfl, h i hi 1 _ rfl, h i hi 2 _ rfl, h i hi 3 _ rfl, h i hi 4 _ rfl, h i hi 5 _ rfl, h i hi 6 _ rfl, h i hi 7 _ rfl⟩

/-- All lengths of a block are lengths. -/
structure Blk.fits (b : Blk) : Prop where
  ty : b.ty.size ≤ 9223372036854775807
  text : b.text.size ≤ 9223372036854775807
  id : b.id.size ≤ 9223372036854775807
  name : b.name.size ≤ 9223372036854775807
  il : b.il ≤ 9223372036854775807
  tu : b.tu.size ≤ 9223372036854775807
  content : b.content.size ≤ 9223372036854775807

/-- What zzAdd leaves. -/
def AddP (t n : Int) (w : World) (e : Ending) (w' : World) : Prop := ∃ v : Int, e = .returned (.int .i64 v) ∧ w = w' ∧ 0 ≤ v ∧ v ≤ 2097152 ∧ (v ≤ 1048576 → t ≤ 1048576 ∧ n ≤ 1048576)
/-- What zzBlocksBytes leaves. -/
def BytesP (n : Nat) (F : Nat → Blk) (w : World) (e : Ending) (w' : World) : Prop := ∃ v : Int, e = .returned (.int .i64 v) ∧ w = w' ∧ 0 ≤ v ∧ v ≤ 2097152 ∧ (v ≤ 1048576 → ∀ i, i < n → (F i).il ≤ 1048576)
/-- What zzTooBig leaves. -/
def BigP (n m : Nat) (F G : Nat → Blk) (w : World) (e : Ending) (w' : World) : Prop := ∃ v : Bool, e = .returned (.bool v) ∧ w = w' ∧ (v = false → n ≤ 4096 ∧ m ≤ 4096 ∧ (∀ i, i < n → (F i).il ≤ 1048576) ∧ ∀ i, i < m → (G i).il ≤ 1048576)

set_option maxHeartbeats 400000 in
theorem add_any (t n : Int) (w : World) (ht : 0 ≤ t) (ht' : t ≤ 2097152) (hn : 0 ≤ n) (hn' : n ≤ 9223372036854775807) :
    Calls Try.prog 14 #[.int .i64 t, .int .i64 n] w fun e w' => AddP t n w e w' := by
  by_cases h1 : 1048576 < n
  · go_enter Try.func14, Try.ntmps14
    go_wp2
    go_ret
    exact ⟨_, rfl, rfl, by omega, by omega, by omega⟩
  by_cases h2 : 1048576 < t
  · go_enter Try.func14, Try.ntmps14
    go_wp2
    go_ret
    exact ⟨_, rfl, rfl, by omega, by omega, by omega⟩
  · go_enter Try.func14, Try.ntmps14
    go_wp2
    go_ret
    exact ⟨t + n, rfl, rfl, by omega, by omega, by omega⟩

set_option maxRecDepth 10000 in
set_option maxHeartbeats 800000 in
theorem blocksBytes_any (t : Int) (b off n cap : Nat) (F : Nat → Blk) (w : World) (ht : 0 ≤ t) (ht' : t ≤ 2097152) (hn : n ≤ 4096) (hF : Blocks w b off n F) (hf : ∀ i, i < n → (F i).fits) :
    Calls Try.prog 13 #[.int .i64 t, .slice (some ⟨b, off, none⟩) n cap] w fun e w' => BytesP n F w e w' := by
  have HF : Hid (Blocks w b off n F) := hF
  have Hf : Hid (∀ i, i < n → (F i).fits) := hf
  clear hF hf
  go_enter Try.func13, Try.ntmps13
  go_wp2
  go_loop [0, 5] (fun tv i => ∃ (k : Nat) (s : Int), k ≤ n ∧ i = .int .i64 k ∧ tv = .int .i64 s ∧ 0 ≤ s ∧ s ≤ 2097152 ∧ Hid (s ≤ 1048576 → ∀ i, i < k → (F i).il ≤ 1048576)) (fun _ i => n - (intOf i).toNat)
  case atStart => exact ⟨0, t, Nat.zero_le _, rfl, rfl, ht, ht', fun _ i h => absurd h (by omega)⟩
  case round =>
    obtain ⟨k, s, hk, rfl, rfl, hs1, hs2, hS⟩ := hrel
    by_cases hlt : k < n
    · have hlt' : (k : Int) < (n : Int) := by omega
      obtain ⟨c0, c1, c2, c3, c4, c5, c6, c7⟩ := HF.out.at hlt
      obtain ⟨f0, f1, f2, f3, f4, f5, f6⟩ := Hf.out k hlt
      go_wp2_with (go_at_call 14; refine (add_any _ _ _ (by omega) (by omega) (by omega) (by omega)).mono ?_; rintro e w' ⟨v, rfl, rfl, hv1, hv2, hv3⟩)
      · go_ret
        exact ⟨v, rfl, rfl, by omega, by omega, fun h => absurd h (by omega)⟩
      · have hil : v ≤ 1048576 → s ≤ 1048576 ∧ (F k).il ≤ 1048576 := by omega
        go_round
        case rel => exact ⟨k + 1, v, by omega, by go_num, rfl, by omega, by omega, fun h i hi => by by_cases e : i = k; subst e; exact (hil h).2; exact hS.out (hil h).1 i (by omega)⟩
        case measure => simp [intOf]; omega
    · go_wp2
      go_ret
      exact ⟨s, rfl, rfl, hs1, hs2, fun h i hi => hS.out h i (by omega)⟩

set_option maxHeartbeats 400000 in
theorem blocksBytes_none (t : Int) (ao : Option Addr) (cap : Nat) (w : World) :
    Calls Try.prog 13 #[.int .i64 t, .slice ao 0 cap] w fun e w' => e = .returned (.int .i64 t) ∧ w = w' := by
  go_enter Try.func13, Try.ntmps13
  go_wp2
  refine wp_loop_rounds 1 ?_
  rw [rounds_succ]
  go_wp2
  go_ret
  exact ⟨rfl, rfl⟩

/-- A slice of blocks as it came in: of an empty one nothing is known of the address. -/
def Args (w : World) (ao : Option Addr) (n : Nat) (F : Nat → Blk) : Prop := 0 < n → ∃ b off, ao = some ⟨b, off, none⟩ ∧ b < w.heap.size ∧ Blocks w b off n F

theorem blocksBytes (t : Int) (ao : Option Addr) (n cap : Nat) (F : Nat → Blk) (w : World) (ht : 0 ≤ t) (ht' : t ≤ 2097152) (hn : n ≤ 4096) (hF : Args w ao n F) (hf : ∀ i, i < n → (F i).fits) :
    Calls Try.prog 13 #[.int .i64 t, .slice ao n cap] w fun e w' => BytesP n F w e w' := by
  by_cases h0 : n = 0
  · subst h0
    exact (blocksBytes_none t ao cap w).mono fun e w' ⟨h1, h2⟩ => ⟨t, h1, h2, ht, ht', fun _ i h => absurd h (by omega)⟩
  · obtain ⟨b, off, rfl, _, hB⟩ := hF (by omega)
    exact blocksBytes_any t b off n cap F w ht ht' hn hB hf

set_option maxHeartbeats 400000 in
theorem tooBig_any (ao bo : Option Addr) (n m ca cb : Nat) (F G : Nat → Blk) (w : World) (hn : n ≤ 9223372036854775807) (hm : m ≤ 9223372036854775807) (hF : Args w ao n F) (hf : ∀ i, i < n → (F i).fits) (hG : Args w bo m G) (hg : ∀ i, i < m → (G i).fits) :
    Calls Try.prog 6 #[.slice ao n ca, .slice bo m cb] w fun e w' => BigP n m F G w e w' := by
  have H1 : Hid (Args w ao n F ∧ Args w bo m G ∧ (∀ i, i < n → (F i).fits) ∧ ∀ i, i < m → (G i).fits) := ⟨hF, hG, hf, hg⟩
  clear hF hG hf hg
  by_cases h1 : 4096 < n
  · go_enter Try.func6, Try.ntmps6
    go_wp2
    go_ret
    exact ⟨true, rfl, rfl, by simp⟩
  by_cases h2 : 4096 < m
  · go_enter Try.func6, Try.ntmps6
    go_wp2
    go_ret
    exact ⟨true, rfl, rfl, by simp⟩
  go_enter Try.func6, Try.ntmps6
  go_wp2_with fail
  refine (blocksBytes 0 ao n ca F _ (by omega) (by omega) (by omega) H1.out.1 H1.out.2.2.1).mono ?_
  rintro e w' ⟨v, rfl, rfl, hv1, hv2, hv3⟩
  have HV : Hid (v ≤ 1048576 → ∀ i, i < n → (F i).il ≤ 1048576) := hv3
  clear hv3
  by_cases hv : 1048576 < v
  · go_wp2
    go_ret
    exact ⟨true, rfl, rfl, by simp⟩
  go_wp2_with fail
  refine (blocksBytes v bo m cb G _ (by omega) (by omega) (by omega) H1.out.2.1 H1.out.2.2.2).mono ?_
  rintro e w' ⟨u, rfl, rfl, hu1, hu2, hu3⟩
  have HU : Hid (u ≤ 1048576 → ∀ i, i < m → (G i).il ≤ 1048576) := hu3
  clear hu3
  go_wp2
  go_ret
  exact ⟨decide (1048576 < u), rfl, rfl, fun h => ⟨by omega, by omega, HV.out (by omega), HU.out (by simp at h; omega)⟩⟩
end Go.Proofs.Qxb6629352a
