/-
  Seat b6629352a. THE MAP 'waiting' (map[string][]int) AS A FUNCTION FROM KEYS TO SLICE VALUES: no memory behind the slices is looked at here.
-/
import Derived.Test.Qxb6629352aBase
import Derived.Maps.Own
import Derived.Maps.Views
import Derived.WideKeyEntry
namespace Go.Proofs.Qxb6629352a
open Go.RowKit Go.Maps Go.ChangeMaps

theorem law : Keyed Try.prog 9 := string_keyed Try.underlying9
theorem zero27 (w : World) : (zeroValue 27).run Try.prog w = .ok (.slice none 0 0) w := by kernel_rfl
theorem und44 : Try.prog.underlying 44 = some (.map 9 27) := Try.underlying44

/-- An element reads as itself. -/
def itself (v : Value) : Option (DataW Value × List MemPlace) := some (.held v, [])

/-- Block B is a map of at most n entries that holds V s at the key s (the nil slice where there is no entry). -/
def Waits (w : World) (B n : Nat) (V : List UInt8 → Value) : Prop :=
  ∃ D : DataW Value, w.ownsMap Try.prog 9 itself B n D ∧ ∀ s : List UInt8, D.atKey (.string s) (.held (.slice none 0 0)) = .held (V s)

/-- A store at one key. -/
def upd (V : List UInt8 → Value) (s : List UInt8) (v : Value) : List UInt8 → Value := fun t => if t = s then v else V t

theorem Waits.made (w : World) : Waits (w.alloc (.map #[] 0)) w.heap.size 0 (fun _ => .slice none 0 0) :=
  ⟨.map [], World.ownsMap_made w _ _ _, fun _ => rfl⟩

theorem Waits.lt {w : World} {B n : Nat} {V : List UInt8 → Value} (h : Waits w B n V) : B < w.heap.size := by
  obtain ⟨D, h, _⟩ := h; exact h.lt
theorem Waits.kept {w w' : World} {B n : Nat} {V : List UInt8 → Value} (h : Waits w B n V) {row : Option Nat} (hg : w.grownBy w' row) (hne : some B ≠ row) : Waits w' B n V := by
  obtain ⟨D, h, hV⟩ := h; exact ⟨D, h.kept hg hne, hV⟩
theorem Waits.mono {w : World} {B n m : Nat} {V : List UInt8 → Value} (h : Waits w B n V) (hm : n ≤ m) : Waits w B m V := by
  obtain ⟨D, h, hV⟩ := h; exact ⟨D, h.mono hm, hV⟩

theorem isMap {w : World} {B n : Nat} {D : DataW Value} (h : w.ownsMap Try.prog 9 itself B n D) : IsMap D := by
  obtain ⟨es, clock, _, _, _, rfl⟩ := h; exact ⟨_, rfl⟩

theorem key_of {s : ByteArray} (hs : s.size ≤ maxLen) : keyOf Try.prog 9 (.string s) = some (.string s.toList) := by
  rw [Go.ByteArray.toList_eq]; exact WideMaps.keyOf_string_mk Try.underlying9 hs

theorem keyLit {s : ByteArray} (hs : s.size ≤ maxLen) : WideAt.IsKeyLit (.string s.toList) := law.key (key_of hs)

/-- 'waiting[s]'. -/
theorem Waits.look {w : World} {B n : Nat} {V : List UInt8 → Value} (h : Waits w B n V) {s : ByteArray} (hs : s.size ≤ maxLen) :
    (Instr.lookup 44 (.map (some B)) (.string s) false).run Try.prog w = .ok (V s.toList) w := by
  obtain ⟨D, hD, hV⟩ := h
  obtain ⟨v, ps, hrun, hR⟩ := hD.lookup law und44 (zero27 w) (zd := .held (.slice none 0 0)) (zp := []) rfl (key_of hs)
  rw [hV s.toList] at hR
  simp only [itself, Option.some.injEq, Prod.mk.injEq, DataW.held.injEq] at hR
  rw [hrun, hR.1]

theorem upd_facts {D : DataW Value} (hm : IsMap D) {V : List UInt8 → Value} (hV : ∀ s : List UInt8, D.atKey (.string s) (.held (.slice none 0 0)) = .held (V s)) {s : ByteArray} (hs : s.size ≤ maxLen) (v : Value) :
    ∀ t : List UInt8, (D.put (.string s.toList) (.held v)).atKey (.string t) (.held (.slice none 0 0)) = .held (upd V s.toList v t) := by
  intro t
  by_cases e : t = s.toList
  · subst e
    rw [atKey_put_same hm (keyLit hs)]
    simp [upd]
  · rw [atKey_put_other (by simpa using e), hV t]
    simp [upd, e]

/-- 'waiting[s] = v'. -/
theorem Waits.store {w : World} {B n : Nat} {V : List UInt8 → Value} (h : Waits w B n V) (hn : n < maxLen) {s : ByteArray} (hs : s.size ≤ maxLen) (v : Value) :
    ∃ w', (Instr.mapUpdate 44 (.map (some B)) (.string s) v).run Try.prog w = .ok () w' ∧ Waits w' B (n + 1) (upd V s.toList v) ∧ w.grownBy w' (some B) := by
  obtain ⟨D, hD, hV⟩ := h
  obtain ⟨w', hrun, hD', hg⟩ := hD.update law und44 hn (key_of hs) (d := .held v) (ps := []) (val := v) rfl
  exact ⟨w', hrun, ⟨_, hD', upd_facts (isMap hD) hV hs v⟩, hg⟩

theorem ownsMap_of_block {w w' : World} {B n : Nat} {D : DataW Value} (h : w.ownsMap Try.prog 9 itself B n D) (e : w'.heap[B]? = w.heap[B]?) : w'.ownsMap Try.prog 9 itself B n D := by
  obtain ⟨es, clock, hb, F, hs, hD⟩ := h
  exact ⟨es, clock, e.trans hb, F, hs, hD⟩

/-- '.., waiting[s] = .., v' in two steps: the entry is found (or made), then written, with other work between them. -/
theorem Waits.entry {w : World} {B n : Nat} {V : List UInt8 → Value} (h : Waits w B n V) (hn : n < maxLen) {s : ByteArray} (hs : s.size ≤ maxLen) :
    ∃ (v0 : Value) (st : Nat) (w1 : World), (Instr.mapEntry 44 (.map (some B)) (.string s)).run Try.prog w = .ok (.tuple #[v0, goInt st]) w1 ∧ w.grownBy w1 (some B) ∧
      ∀ (w2 : World) (v : Value), w2.heap[B]? = w1.heap[B]? → B < w2.heap.size → ∃ w3, (Instr.entryStore 44 (.map (some B)) (goInt st) v).run Try.prog w2 = .ok () w3 ∧ w2.grownBy w3 (some B) ∧ Waits w3 B (n + 1) (upd V s.toList v) := by
  obtain ⟨D, hD, hV⟩ := h
  have hlt := hD.lt
  obtain ⟨es, clock, hb, F, hsz, hDD⟩ := hD
  obtain ⟨v0, st, es1, clock1, hrun, _, hst⟩ := WideElems.entry_then_store (R := itself) (WideMaps.string_law Try.underlying9) und44 zero27 hb F (key_of hs)
  refine ⟨v0, st, _, hrun, ⟨rfl, rfl, rfl, by simp [setBlock], fun i _ hi => heap_setBlock_other hb _ (fun e => hi (by rw [e]))⟩, fun w2 v e2 hl2 => ?_⟩
  rw [heap_setBlock_same hb] at e2
  obtain ⟨es', clock', hr, hu⟩ := hst w2 v e2
  obtain ⟨w', hrun', hD', _⟩ := World.ownsMap.update (⟨es, clock, hb, F, hsz, hDD⟩ : w.ownsMap Try.prog 9 itself B n D) law und44 hn (key_of hs) (d := .held v) (ps := []) (val := v) rfl
  rw [hu] at hrun'
  have ew : setBlock w B (.map es' clock') = w' := by injection hrun'
  refine ⟨_, hr, ⟨rfl, rfl, rfl, by simp [setBlock], fun i _ hi => heap_setBlock_other e2 _ (fun e => hi (by rw [e]))⟩, _, ownsMap_of_block hD' ?_, upd_facts (D := D) ⟨_, hDD⟩ hV hs v⟩
  rw [← ew, heap_setBlock_same hb, heap_setBlock_same e2]

end Go.Proofs.Qxb6629352a
