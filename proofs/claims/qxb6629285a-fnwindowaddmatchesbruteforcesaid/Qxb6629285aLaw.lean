/-
  Seat b6629285a. A LAW FOR THE WALK, over any program: 'x = append(x, ..)' onto a row that lies anywhere in a block of the call's own (x may have been resliced at its front): room or no room, ONE way.
-/
import Derived.Test.Qxb6629285aPlain
import Derived.ArgAppend
import Derived.Deep.MidRow
import Derived.Below
import Derived.Deep.Draws
namespace Go.Proofs.Qxb6629285a
open Go.RowKit

theorem grownBy_setCell (w : World) (b o : Nat) (v : Value) : w.grownBy (w.setCell ⟨b, o, none⟩ v) (some b) :=
  ⟨rfl, rfl, rfl, by simp [World.setCell], fun k _ hk => Below.heap_setCell _ _ _ _ (fun e => hk (by rw [e]))⟩

theorem grownBy_trans {a b c : World} {r : Option Nat} (h : a.grownBy b r) (k : b.grownBy c r) : a.grownBy c r :=
  ⟨k.os.trans h.os, k.tape.trans h.tape, k.output.trans h.output, Nat.le_trans h.size k.size, fun i hi hr => (k.block i (Nat.lt_of_lt_of_le hi h.size) hr).trans (h.block i hi hr)⟩

theorem grownBy_setCells (b : Nat) : ∀ (vs : List Value) (o : Nat) (w : World), w.grownBy (w.setCells b o vs) (some b)
  | [], _, _ => ⟨rfl, rfl, rfl, Nat.le_refl _, fun _ _ _ => rfl⟩
  | v :: r, o, w => by
    rw [World.setCells]
    exact grownBy_trans (grownBy_setCell w b o v) (grownBy_setCells b r (o + 1) _)

theorem grownBy_none {w w' : World} (h : w.grownBy w' none) (r : Option Nat) : w.grownBy w' r :=
  ⟨h.os, h.tape, h.output, h.size, fun k hk _ => h.block k hk (by simp)⟩

theorem rangeAt_append {w : World} {b o : Nat} {xs ys : List Value} (h : w.rangeAt b o xs) (k : w.rangeAt b (o + xs.length) ys) : w.rangeAt b o (xs ++ ys) := fun j v hv => by
  by_cases hj : j < xs.length
  · rw [List.getElem?_append_left hj] at hv
    exact h j v hv
  · rw [List.getElem?_append_right (by omega)] at hv
    have := k (j - xs.length) v hv
    rwa [show o + xs.length + (j - xs.length) = o + j from by omega] at this

/-- What an owned row says, as ranges. -/
theorem ownsRow_range {w : World} {base : Nat} {e : TypeId} {size : Nat} {v : Value} {n : Nat} {xs : List Value} (hn : 0 < n) (h : w.ownsRow base e size v n xs) :
    ∃ g cap, v = .slice (some ⟨g, 0, none⟩) n cap ∧ base ≤ g ∧ g < w.heap.size ∧ n ≤ cap ∧ w.rangeAt g 0 xs ∧ w.there g 0 (cap * size) := by
  rcases h.2 with ⟨_, h0⟩ | ⟨g, cap, cur, hv, hb, hg, hc, _, hs, ht⟩
  · omega
  refine ⟨g, cap, hv, hb, (Array.getElem?_eq_some_iff.1 hg).1, hc, ?_, ?_⟩
  · intro j u hu
    have := h.cells (g := g) (by rw [hv]; rfl) j u hu
    rw [Addr.add_mid] at this
    exact this
  · intro j hj
    have hjc : j < cur.size := by rw [hs]; exact hj
    constructor
    · rw [Nat.zero_add, cell_of_row w g j cur e (0, 0) hg]
      simp [hjc]
    · simp [World.frozen?, hg]

theorem wpList_append_row {P : Program} (w : World) {ops : Array Oper} {rest : List Oper} {o : Oper} {a : Act} {Q : Exit → Act → World → Prop}
    (hg : o.guard = none) (s x : Operand) (t : TypeId) (hop : o.op = Op.call { callee := Callee.builtin Builtin.append, args := #[s, x], argTypes := #[t, t] })
    (e : TypeId) (i : TypeInfo) (z : Value) (size bytes : Nat) (h1 : P.underlying t = some (.slice e)) (h2 : P.info? e = some i) (h3 : i.zero = some z) (h4 : i.size = size) (h5 : i.bytes = bytes) (h6 : z.cells.size = size) (h7 : 0 < size)
    (b off n cap : Nat) (olds : List Value) (hs : a.eval s = .slice (some ⟨b, off, none⟩) n cap) (hlo : olds.length = n * size) (holds : w.rangeAt b off olds) (hth : w.there b off (cap * size))
    (ad : Addr) (m c : Nat) (news : List Value) (hx : a.eval x = .slice (some ad) m c) (hn : news.length = m * size) (hc : ∀ j u, news[j]? = some u → w.cell? (ad.add j) = some u) (h1c : ∀ u ∈ news, u.oneCell' = true)
    (_hm : 0 < m) (hbl : b < w.heap.size) (b1 : n + m ≤ maxLen) (b2 : (n + m) * bytes ≤ 140737488355328)
    (hK : ∀ b' off' cap' w', (b' = b ∨ w.heap.size ≤ b') → b' < w'.heap.size → n + m ≤ cap' → w'.rangeAt b' off' (olds ++ news) → w'.there b' off' (cap' * size) → w.grownBy w' (some b) →
      wpList P ops Q rest (a.put o.dst (.slice (some ⟨b', off', none⟩) (n + m) cap')) w') :
    wpList P ops Q (o :: rest) a w := by
  refine wpList_append_arg w hg s x t hop e i z size bytes h1 h2 h3 h4 h5 h6 h7 b off n cap olds hs hlo holds ad m c news hx hn hc h1c ?_ b1 b2 ?_ ?_
  · intro hr j hj
    have hlt : n * size + j < cap * size := by
      have : (n + m) * size ≤ cap * size := Nat.mul_le_mul_right _ hr
      rw [Nat.add_mul] at this
      omega
    have := hth (n * size + j) hlt
    rwa [← Nat.add_assoc] at this
  · intro hr
    have ht : w.there b (off + n * size) news.length := fun j hj => by
      have hlt : n * size + j < cap * size := by
        have : (n + m) * size ≤ cap * size := Nat.mul_le_mul_right _ hr
        rw [Nat.add_mul] at this
        omega
      have := hth (n * size + j) hlt
      rwa [← Nat.add_assoc] at this
    refine hK b off cap _ (Or.inl rfl) ?_ hr ?_ (World.there_setCells hth _ _ _) (grownBy_setCells b news _ w)
    · exact Nat.lt_of_lt_of_le hbl (grownBy_setCells b news _ w).size
    · refine rangeAt_append (World.rangeAt_setCells_apart holds b _ news (Or.inr (Or.inl (by omega)))) ?_
      rw [hlo]
      exact World.rangeAt_setCells_same w b _ news ht
  · intro hr v' w' hown hgr
    obtain ⟨g, cap', hv, hb, hlt, hc', hra, hthe⟩ := ownsRow_range (by omega) hown
    rw [hv]
    exact hK g 0 cap' w' (Or.inr hb) hlt hc' hra hthe (grownBy_none hgr _)

/-- The same onto a nil slice: a new array. -/
theorem wpList_append_row_nil {P : Program} (w : World) {ops : Array Oper} {rest : List Oper} {o : Oper} {a : Act} {Q : Exit → Act → World → Prop}
    (hg : o.guard = none) (s x : Operand) (t : TypeId) (hop : o.op = Op.call { callee := Callee.builtin Builtin.append, args := #[s, x], argTypes := #[t, t] })
    (e : TypeId) (i : TypeInfo) (z : Value) (size bytes : Nat) (h1 : P.underlying t = some (.slice e)) (h2 : P.info? e = some i) (h3 : i.zero = some z) (h4 : i.size = size) (h5 : i.bytes = bytes) (h6 : z.cells.size = size) (h7 : 0 < size)
    (hs : a.eval s = .slice none 0 0)
    (ad : Addr) (m c : Nat) (news : List Value) (hx : a.eval x = .slice (some ad) m c) (hn : news.length = m * size) (hc : ∀ j u, news[j]? = some u → w.cell? (ad.add j) = some u) (h1c : ∀ u ∈ news, u.oneCell' = true)
    (hm : 0 < m) (b1 : m ≤ maxLen) (b2 : m * bytes ≤ 140737488355328)
    (hK : ∀ b' cap' w', w.heap.size ≤ b' → b' < w'.heap.size → m ≤ cap' → w'.rangeAt b' 0 news → w'.there b' 0 (cap' * size) → w.grownBy w' none →
      wpList P ops Q rest (a.put o.dst (.slice (some ⟨b', 0, none⟩) m cap')) w') :
    wpList P ops Q (o :: rest) a w := by
  refine wpList_append_grows w hg s x t hop e i z size bytes h1 h2 h3 h4 h5 h6 h7 none 0 0 [] hs (fun _ => ⟨rfl, rfl⟩) (by simp) (fun b hb => by simp at hb) ad m c news hx hn hc h1c (by omega) (by omega) (by simpa using b2) ?_
  intro v' w' hown hgr
  rw [Nat.zero_add, List.nil_append] at hown
  obtain ⟨g, cap', hv, hb, hlt, hc', hra, hthe⟩ := ownsRow_range hm hown
  rw [hv]
  exact hK g cap' w' hb hlt hc' hra hthe hgr

/-- w' is w with new blocks, and with writes to block B and to block g alone. -/
structure Kept (w w' : World) (B : Nat) (g : Option Nat) : Prop where
  os : w'.os = w.os
  tape : w'.tape = w.tape
  output : w'.output = w.output
  size : w.heap.size ≤ w'.heap.size
  block : ∀ k, k < w.heap.size → k ≠ B → some k ≠ g → w'.heap[k]? = w.heap[k]?

theorem Kept.refl (w : World) (B : Nat) (g : Option Nat) : Kept w w B g := ⟨rfl, rfl, rfl, Nat.le_refl _, fun _ _ _ _ => rfl⟩
theorem Kept.trans {a b c : World} {B : Nat} {g : Option Nat} (h : Kept a b B g) (k : Kept b c B g) : Kept a c B g :=
  ⟨k.os.trans h.os, k.tape.trans h.tape, k.output.trans h.output, Nat.le_trans h.size k.size, fun i hi h1 h2 => (k.block i (Nat.lt_of_lt_of_le hi h.size) h1 h2).trans (h.block i hi h1 h2)⟩
theorem Kept.drewN (w : World) (q : Nat) (B : Nat) (g : Option Nat) : Kept w (w.drewN q) B g := ⟨rfl, rfl, rfl, Nat.le_refl _, fun _ _ _ _ => rfl⟩
theorem Kept.store (w : World) (B : Nat) (g : Option Nat) (o : Nat) (v : Value) : Kept w (w.setCell ⟨B, o, none⟩ v) B g :=
  ⟨rfl, rfl, rfl, by simp [World.setCell], fun k _ hk _ => Below.heap_setCell _ _ _ _ (fun e => hk (by rw [e]))⟩
theorem Kept.alloc (w : World) (B : Nat) (g : Option Nat) (o : Obj) : Kept w (w.alloc o) B g :=
  ⟨rfl, rfl, rfl, by simp, fun k hk _ _ => Below.heap_alloc _ _ _ hk⟩
theorem Kept.grown {w w' : World} {g : Option Nat} (h : w.grownBy w' g) (B : Nat) : Kept w w' B g :=
  ⟨h.os, h.tape, h.output, h.size, fun k hk _ h2 => h.block k hk h2⟩
theorem Kept.cell {w w' : World} {B : Nat} {g : Option Nat} (h : Kept w w' B g) {a : Addr} (hl : a.block < w.heap.size) (h1 : a.block ≠ B) (h2 : some a.block ≠ g) : w'.cell? a = w.cell? a :=
  World.cell?_of_block (h.block a.block hl h1 h2)
theorem Kept.frozen {w w' : World} {B : Nat} {g : Option Nat} (h : Kept w w' B g) {a : Addr} (hl : a.block < w.heap.size) (h1 : a.block ≠ B) (h2 : some a.block ≠ g) : w'.frozen? a = w.frozen? a :=
  World.frozen?_of_block (h.block a.block hl h1 h2)
/-- Written blocks of the call's own turn nothing below. -/
theorem Kept.below {w w' : World} {B : Nat} {g : Option Nat} (h : Kept w w' B g) {L : Nat} (hL : L ≤ w.heap.size) (hB : L ≤ B) (hg : ∀ b, g = some b → L ≤ b) : Below L w w' :=
  ⟨h.os, h.tape, h.output, h.size, fun k hk => h.block k (by omega) (by omega) (fun e => by have := hg k e.symm; omega)⟩

/-- The cells of m entries. -/
def entries (T C : Nat → Int) : Nat → List Value
  | 0 => []
  | m + 1 => entries T C m ++ [.int .i64 (T m), .int .i64 (C m)]

theorem entries_length (T C : Nat → Int) : ∀ m, (entries T C m).length = m * 2
  | 0 => rfl
  | m + 1 => by rw [entries, List.length_append, entries_length T C m]; simp; omega

theorem entries_range {w : World} {b off : Nat} {T C : Nat → Int} : ∀ m, (∀ i, i < m → w.cell? ⟨b, off + i * 2, none⟩ = some (.int .i64 (T i))) → (∀ i, i < m → w.cell? ⟨b, off + i * 2 + 1, none⟩ = some (.int .i64 (C i))) →
    w.rangeAt b off (entries T C m)
  | 0, _, _ => fun j v hv => by simp [entries] at hv
  | m + 1, h1, h2 => by
    refine rangeAt_append (entries_range m (fun i hi => h1 i (by omega)) (fun i hi => h2 i (by omega))) ?_
    rw [entries_length]
    intro j v hv
    match j, hv with
    | 0, hv => simp at hv; subst hv; exact h1 m (by omega)
    | 1, hv => simp at hv; subst hv; exact h2 m (by omega)
    | j + 2, hv => simp at hv

theorem rangeAt_left {w : World} {b o : Nat} {xs ys : List Value} (h : w.rangeAt b o (xs ++ ys)) : w.rangeAt b o xs := fun j v hv => h j v (by rw [List.getElem?_append_left (List.getElem?_eq_some_iff.1 hv).1]; exact hv)
theorem rangeAt_right {w : World} {b o : Nat} {xs ys : List Value} (h : w.rangeAt b o (xs ++ ys)) : w.rangeAt b (o + xs.length) ys := fun j v hv => by
  have := h (xs.length + j) v (by rw [List.getElem?_append_right (by omega)]; simpa using hv)
  rwa [← Nat.add_assoc] at this

theorem range_entries {w : World} {b off : Nat} {T C : Nat → Int} : ∀ m, w.rangeAt b off (entries T C m) →
    (∀ i, i < m → w.cell? ⟨b, off + i * 2, none⟩ = some (.int .i64 (T i))) ∧ (∀ i, i < m → w.cell? ⟨b, off + i * 2 + 1, none⟩ = some (.int .i64 (C i)))
  | 0, _ => ⟨fun i h => absurd h (by omega), fun i h => absurd h (by omega)⟩
  | m + 1, h => by
    have ih := range_entries m (rangeAt_left h)
    have hr := rangeAt_right h
    rw [entries_length] at hr
    refine ⟨fun i hi => ?_, fun i hi => ?_⟩
    · by_cases e : i = m
      · subst e; exact hr 0 _ rfl
      · exact ih.1 i (by omega)
    · by_cases e : i = m
      · subst e; exact hr 1 _ rfl
      · exact ih.2 i (by omega)

/-- A QUEUE IN MEMORY: a slice value, n entries (two cells each: time, count) of capacity cap, in block g (none: the nil slice). -/
structure Queue (w : World) (B : Nat) (g : Option Nat) (v : Value) (n : Nat) (T C : Nat → Int) : Prop where
  nil : g = none → v = .slice none 0 0 ∧ n = 0
  row : ∀ b, g = some b → ∃ off cap, v = .slice (some ⟨b, off, none⟩) n cap ∧ ¬ b = B ∧ b < w.heap.size ∧ n ≤ cap ∧
    (∀ i, i < n → w.cell? ⟨b, off + i * 2, none⟩ = some (.int .i64 (T i))) ∧ (∀ i, i < n → w.cell? ⟨b, off + i * 2 + 1, none⟩ = some (.int .i64 (C i))) ∧ w.there b off (cap * 2)

/-- A WINDOW IN MEMORY: block B holds its Length, its Largest and its queue. -/
structure Win (w : World) (B : Nat) (g : Option Nat) (len : Int) (lg : Bool) (n : Nat) (T C : Nat → Int) : Prop where
  c0 : w.cell? ⟨B, 0, none⟩ = some (.int .i64 len)
  c1 : w.cell? ⟨B, 1, none⟩ = some (.bool lg)
  c2 : ∃ v, w.cell? ⟨B, 2, none⟩ = some v ∧ Queue w B g v n T C
  f2 : w.frozen? ⟨B, 2, none⟩ = false

theorem Win.lt {w : World} {B : Nat} {g : Option Nat} {len : Int} {lg : Bool} {n : Nat} {T C : Nat → Int} (h : Win w B g len lg n T C) : B < w.heap.size := World.block_lt_of_cell? w _ h.c0

/-- Another window's work leaves this one as it was. -/
theorem Win.kept {w w' : World} {B : Nat} {g : Option Nat} {len : Int} {lg : Bool} {n : Nat} {T C : Nat → Int} (h : Win w B g len lg n T C) {B' : Nat} {g' : Option Nat} (k : Kept w w' B' g')
    (h1 : B ≠ B') (h2 : some B ≠ g') (h3 : ∀ b, g = some b → b ≠ B' ∧ some b ≠ g') : Win w' B g len lg n T C := by
  have hl := h.lt
  obtain ⟨v, hv, hq⟩ := h.c2
  refine ⟨(k.cell hl h1 h2).trans h.c0, (k.cell hl h1 h2).trans h.c1, ⟨v, (k.cell hl h1 h2).trans hv, hq.nil, fun b hb => ?_⟩, (k.frozen hl h1 h2).trans h.f2⟩
  obtain ⟨off, cap, e, h4, h5, h6, h7, h8, h9⟩ := hq.row b hb
  obtain ⟨k1, k2⟩ := h3 b hb
  exact ⟨off, cap, e, h4, Nat.lt_of_lt_of_le h5 k.size, h6, fun i hi => (k.cell h5 k1 k2).trans (h7 i hi), fun i hi => (k.cell h5 k1 k2).trans (h8 i hi),
    fun j hj => ⟨by rw [k.cell (a := ⟨b, off + j, none⟩) h5 k1 k2]; exact (h9 j hj).1, by rw [k.frozen (a := ⟨b, off + j, none⟩) h5 k1 k2]; exact (h9 j hj).2⟩⟩

theorem cells_new2 (W : World) (x y : Value) (t : TypeId) (N : Nat) (hN : W.heap.size = N) : ∀ j u, [x, y][j]? = some u → (W.alloc (.cells #[x, y] t)).cell? ((⟨N, 0, none⟩ : Addr).add j) = some u := by
  subst hN
  intro j u hj
  match j, hj with
  | 0, hj => simp at hj; subst hj; simp [Addr.add]
  | 1, hj => simp at hj; subst hj; simp [Addr.add]
  | j + 2, hj => simp at hj

/-- What Add leaves. -/
def AddLeft (w : World) (B : Nat) (g : Option Nat) (len now c : Int) (lg : Bool) (n : Nat) (T C : Nat → Int) (e : Ending) (w' : World) : Prop :=
  ∃ k m : Nat, e = .returned (.int .i64 (Pl.C' C c k m 0)) ∧ Pl.Added lg (now - len) now c n T C k m ∧
    ∃ b', (g = some b' ∨ w.heap.size ≤ b') ∧ Win w' B (some b') len lg (m + 1) (Pl.T' T now k m) (Pl.C' C c k m) ∧ Kept w w' B g

/-- The window behind the append and the store of the new slice. -/
theorem win_of {w1 : World} {B b' off' cap' : Nat} {len now c : Int} {lg : Bool} {k m : Nat} {T C : Nat → Int}
    (c0 : w1.cell? ⟨B, 0, none⟩ = some (.int .i64 len)) (c1 : w1.cell? ⟨B, 1, none⟩ = some (.bool lg)) {u : Value} (c2 : w1.cell? ⟨B, 2, none⟩ = some u) (f2 : w1.frozen? ⟨B, 2, none⟩ = false)
    (hne : ¬ b' = B) (hlt : b' < w1.heap.size) (hcap : m + 1 ≤ cap') (hra : w1.rangeAt b' off' (entries (fun i => T (k + i)) (fun i => C (k + i)) m ++ [.int .i64 now, .int .i64 c])) (hth : w1.there b' off' (cap' * 2)) :
    Win (w1.setCell ⟨B, 2, none⟩ (.slice (some ⟨b', off', none⟩) (m + 1) cap')) B (some b') len lg (m + 1) (Pl.T' T now k m) (Pl.C' C c k m) := by
  have hn : ∀ o, (⟨B, 2, none⟩ : Addr) ≠ ⟨b', o, none⟩ := fun o e => hne (by injection e with e1; exact e1.symm)
  have hl := range_entries m (rangeAt_left hra)
  have hr := rangeAt_right hra
  rw [entries_length] at hr
  refine ⟨by rw [World.cell?_setCell_other _ _ _ _ (by simp)]; exact c0, by rw [World.cell?_setCell_other _ _ _ _ (by simp)]; exact c1, ⟨_, World.cell?_setCell_same _ _ _ c2, fun h => by simp at h, fun b hb => ?_⟩, by rw [World.frozen?_setCell]; exact f2⟩
  obtain rfl : b' = b := by simpa using hb
  refine ⟨off', cap', rfl, hne, by simpa [World.setCell] using hlt, hcap, fun i hi => ?_, fun i hi => ?_, fun j hj => ?_⟩
  · rw [World.cell?_setCell_other _ _ _ _ (hn _)]
    by_cases e : i = m
    · subst e; rw [show Pl.T' T now k i i = now from by simp [Pl.T']]; exact hr 0 _ rfl
    · rw [show Pl.T' T now k m i = T (k + i) from by simp [Pl.T']; intro h; omega]; exact hl.1 i (by omega)
  · rw [World.cell?_setCell_other _ _ _ _ (hn _)]
    by_cases e : i = m
    · subst e; rw [show Pl.C' C c k i i = c from by simp [Pl.C']]; exact hr 1 _ rfl
    · rw [show Pl.C' C c k m i = C (k + i) from by simp [Pl.C']; intro h; omega]; exact hl.2 i (by omega)
  · rw [World.cell?_setCell_other _ _ _ _ (hn _), World.frozen?_setCell]
    exact hth j hj

/-- The first entry's count. -/
theorem head_of {w1 : World} {b' off' : Nat} {now c : Int} {k m : Nat} {T C : Nat → Int}
    (hra : w1.rangeAt b' off' (entries (fun i => T (k + i)) (fun i => C (k + i)) m ++ [.int .i64 now, .int .i64 c])) : w1.cell? ⟨b', off' + 1, none⟩ = some (.int .i64 (Pl.C' C c k m 0)) := by
  have hl := range_entries m (rangeAt_left hra)
  have hr := rangeAt_right hra
  rw [entries_length] at hr
  by_cases hm : m = 0
  · subst hm; simpa [Pl.C'] using hr 1 _ rfl
  · rw [show Pl.C' C c k m 0 = C (k + 0) from by simp [Pl.C']; intro h; omega]
    simpa using hl.2 0 (by omega)

end Go.Proofs.Qxb6629285a
