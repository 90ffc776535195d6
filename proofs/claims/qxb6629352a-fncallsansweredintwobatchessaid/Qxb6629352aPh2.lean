/-
  Seat b6629352a. CallsAnswered's SECOND LOOP: what stands in memory, and what a round does to it.
-/
import Derived.Test.Qxb6629352aPh1
namespace Go.Proofs.Qxb6629352a
open Go.RowKit

/-- The slice value v reads the indices L, from a block that is neither the map nor the answers. -/
def Rd (w : World) (B A : Nat) (v : Value) (L : List Nat) : Prop :=
  (v = .slice none 0 0 ∧ L = []) ∨ ∃ g off cap, v = .slice (some ⟨g, off, none⟩) L.length cap ∧ L.length ≤ cap ∧ g < w.heap.size ∧ g ≠ B ∧ g ≠ A ∧ ∀ j (x : Nat), L[j]? = some x → w.cell? ⟨g, off + j, none⟩ = some (.int .i64 (x : Int))

theorem Rd.kept {w w' : World} {B A : Nat} {v : Value} {L : List Nat} (h : Rd w B A v L) (hs : w.heap.size ≤ w'.heap.size) (hc : ∀ g, g < w.heap.size → g ≠ B → g ≠ A → w'.heap[g]? = w.heap[g]?) : Rd w' B A v L := by
  rcases h with h | ⟨g, off, cap, h1, h2, h3, h4, h5, h6⟩
  · exact Or.inl h
  · exact Or.inr ⟨g, off, cap, h1, h2, by omega, h4, h5, fun j x hx => (World.cell?_of_block (w := w) (hc g h3 h4 h5)).trans (h6 j x hx)⟩

theorem Rd.tail {w : World} {B A g off cap : Nat} {x : Nat} {L : List Nat} (h : Rd w B A (.slice (some ⟨g, off, none⟩) (x :: L).length cap) (x :: L)) (off' : Nat) (ho : off' = off + 1 ∨ cap = 1) : Rd w B A (.slice (some ⟨g, off', none⟩) L.length (cap - 1)) L := by
  rcases h with h | ⟨g', off2, cap', h1, h2, h3, h4, h5, h6⟩
  · cases h.1
  · simp only [Value.slice.injEq, Option.some.injEq, Addr.mk.injEq] at h1
    obtain ⟨⟨rfl, rfl, _⟩, _, rfl⟩ := h1
    simp at h2
    refine Or.inr ⟨g, off', cap - 1, rfl, by omega, h3, h4, h5, fun j y hy => ?_⟩
    rcases ho with rfl | hc
    · have := h6 (j + 1) y (by simpa using hy)
      rwa [show off + (j + 1) = off + 1 + j from by omega] at this
    · have : L.length = 0 := by omega
      rw [List.eq_nil_of_length_eq_zero this] at hy
      simp at hy

/-- Behind i rounds of the second loop. B: the map's block; A: the answers'. -/
structure Ph2 (w wr : World) (B A R S : Nat) (F G : Nat → Blk) (i : Nat) (V : List UInt8 → Value) : Prop where
  map : Waits wr B (R + i) V
  reads : ∀ s, Rd wr B A (V s) ((Pl.calls (uk F) s R).drop (Pl.cnt (rk G) s i))
  there : wr.there A 0 S
  lt : A < wr.heap.size
  old : w.heap.size ≤ A ∧ w.heap.size ≤ B ∧ A ≠ B
  done : ∀ j, j < i → wr.cell? ⟨A, j, none⟩ = some (.int .i64 (Pl.ans (uk F) R (rk G) j))
  below : Below w.heap.size w wr

theorem Ph2.kept {w wr w' : World} {B A R S : Nat} {F G : Nat → Blk} {i : Nat} {V : List UInt8 → Value} (h : Ph2 w wr B A R S F G i V) (hg : wr.grownBy w' none) : Ph2 w w' B A R S F G i V := by
  have hb : ∀ g, g < wr.heap.size → w'.heap[g]? = wr.heap[g]? := fun g hl => hg.block g hl (by simp)
  refine ⟨h.map.kept hg (by simp), fun s => (h.reads s).kept hg.size (fun g hl _ _ => hb g hl), fun j hj => ?_, Nat.lt_of_lt_of_le h.lt hg.size, h.old, fun j hj => hg.cell (h.done j hj) (by simp), h.below.grown hg h.below.size (by simp)⟩
  rw [World.cell?_of_block (w := wr) (w' := w') (a := ⟨A, 0 + j, none⟩) (hb A h.lt), World.frozen?_of_block (w := wr) (w' := w') (a := ⟨A, 0 + j, none⟩) (hb A h.lt)]
  exact h.there j hj

theorem grownBy_store (w : World) (b o : Nat) (v : Value) : w.grownBy (w.setCell ⟨b, o, none⟩ v) (some b) :=
  ⟨rfl, rfl, rfl, by simp [World.setCell], fun k _ hk => Below.heap_setCell _ _ _ _ (fun e => hk (by rw [e]))⟩

theorem there_store {w : World} {A S i : Nat} (h : w.there A 0 S) (v : Value) : (w.setCell ⟨A, i, none⟩ v).there A 0 S := by
  have := World.there_setCells h A i [v]
  simpa [World.setCells] using this

theorem grownBy_tr {a b c : World} {r : Option Nat} (h : a.grownBy b r) (k : b.grownBy c r) : a.grownBy c r :=
  ⟨k.os.trans h.os, k.tape.trans h.tape, k.output.trans h.output, Nat.le_trans h.size k.size, fun i hi hr => (k.block i (Nat.lt_of_lt_of_le hi h.size) hr).trans (h.block i hi hr)⟩

/-- 'answered[i] = v', the rest as it was. -/
theorem Ph2.mark {w wr : World} {B A R S : Nat} {F G : Nat → Blk} {i : Nat} {V : List UInt8 → Value} (h : Ph2 w wr B A R S F G i V) (v : Value) : Ph2 w (wr.setCell ⟨A, i, none⟩ v) B A R S F G i V := by
  have hg := grownBy_store wr A i v
  refine ⟨h.map.kept hg (by simpa using fun e => h.old.2.2 e.symm), fun s => (h.reads s).kept hg.size (fun g hl _ hA => hg.block g hl (by simpa using hA)), there_store h.there v, Nat.lt_of_lt_of_le h.lt hg.size, h.old, fun j hj => ?_, h.below.setCell h.old.1 v⟩
  rw [World.cell?_setCell_other _ _ _ _ (by intro e; injection e with _ e2; omega)]
  exact h.done j hj

theorem cell_mark {wr : World} {A S i : Nat} (h : wr.there A 0 S) (hi : i < S) (v : Value) : (wr.setCell ⟨A, i, none⟩ v).cell? ⟨A, i, none⟩ = some v := by
  have := (h i hi).1
  rw [Nat.zero_add] at this
  obtain ⟨u, hu⟩ := Option.isSome_iff_exists.1 this
  exact World.cell?_setCell_same _ _ _ hu

/-- A round that answers -1. -/
theorem Ph2.minus {w wr : World} {B A R S : Nat} {F G : Nat → Blk} {i : Nat} {V : List UInt8 → Value} (h : Ph2 w wr B A R S F G i V) (hc : wr.cell? ⟨A, i, none⟩ = some (.int .i64 (-1)))
    (hn : rk G i = none ∨ ∃ s, rk G i = some s ∧ (Pl.calls (uk F) s R).drop (Pl.cnt (rk G) s i) = []) : Ph2 w wr B A R S F G (i + 1) V := by
  refine ⟨h.map.mono (by omega), fun s => ?_, h.there, h.lt, h.old, fun j hj => ?_, h.below⟩
  · by_cases e : rk G i = some s
    · rcases hn with hn | ⟨t, ht, hd⟩
      · rw [hn] at e; cases e
      · rw [ht] at e
        obtain rfl : t = s := by injection e
        have h1 := h.reads t
        rw [hd] at h1
        have : (Pl.calls (uk F) t R).drop (Pl.cnt (rk G) t (i + 1)) = [] := by
          rw [Pl.cnt_hit ht]
          rw [List.drop_eq_nil_iff] at hd ⊢
          omega
        rw [this]; exact h1
    · rw [Pl.cnt_miss e]; exact h.reads s
  · by_cases e : j = i
    · subst e
      rw [hc]
      rcases hn with hn | ⟨t, ht, hd⟩
      · rw [Pl.ans_none hn]
      · rw [Pl.ans_miss ht (by rw [List.drop_eq_nil_iff, Pl.calls_length] at hd; exact hd)]
    · exact h.done j (by omega)

/-- A round that answers x: behind all three writes. -/
theorem Ph2.hit {w wr w' : World} {B A R S : Nat} {F G : Nat → Blk} {i : Nat} {V : List UInt8 → Value} (h : Ph2 w wr B A R S F G i V) {s : List UInt8} (hs : rk G i = some s) {x : Nat} {L : List Nat} (hd : (Pl.calls (uk F) s R).drop (Pl.cnt (rk G) s i) = x :: L)
    {tv : Value} (hW : Waits w' B (R + i + 1) (upd V s tv)) (ht : Rd wr B A tv L) (hsz : wr.heap.size ≤ w'.heap.size) (hb : ∀ g, g < wr.heap.size → g ≠ B → g ≠ A → w'.heap[g]? = wr.heap[g]?)
    (hthere : w'.there A 0 S) (hdone : ∀ j, j < i → w'.cell? ⟨A, j, none⟩ = wr.cell? ⟨A, j, none⟩) (hx : w'.cell? ⟨A, i, none⟩ = some (.int .i64 (x : Int))) (hbel : Below w.heap.size w w') :
    Ph2 w w' B A R S F G (i + 1) (upd V s tv) := by
  have hget : (Pl.calls (uk F) s R)[Pl.cnt (rk G) s i]? = some x := by
    have := congrArg (fun l => l[0]?) hd
    simpa [List.getElem?_drop] using this
  refine ⟨hW, fun t => ?_, hthere, Nat.lt_of_lt_of_le h.lt hsz, h.old, fun j hj => ?_, hbel⟩
  · by_cases e : t = s
    · subst e
      have e1 : (Pl.calls (uk F) t R).drop (Pl.cnt (rk G) t (i + 1)) = L := by
        rw [Pl.cnt_hit hs, ← List.drop_drop, hd]; rfl
      rw [e1, show upd V t tv t = tv from by simp [upd]]
      exact ht.kept hsz hb
    · rw [show upd V s tv t = V t from by simp [upd, e], Pl.cnt_miss (by rw [hs]; simpa using fun h => e h.symm)]
      exact (h.reads t).kept hsz hb
  · by_cases e : j = i
    · subst e
      rw [hx, Pl.ans_hit hs hget]
    · rw [hdone j (by omega)]; exact h.done j (by omega)

/-- From the first loop to the second: the answers' row is made. -/
theorem Ph1.turn {w wr w1 : World} {bx : Value} {F : Nat → Blk} {R : Nat} {V : List UInt8 → Value} (h : Ph1 w wr bx F R V) (S : Nat) (G : Nat → Blk) {xs : List Value}
    (hown : w1.ownsRow wr.heap.size 3 1 (.slice (some ⟨wr.heap.size, 0, none⟩) S S) S xs) (hg : wr.grownBy w1 none) : Ph2 w w1 (w.heap.size + 1 + 1) wr.heap.size R S F G 0 V := by
  have hml := h.map.lt
  refine ⟨(h.map.kept hg (by simp)).mono (by omega), fun s => ?_, fun j hj => ?_, (hown.lt _ rfl).2, ⟨h.below.size, by omega, by omega⟩, fun j hj => absurd hj (by omega), h.below.grown hg h.below.size (by simp)⟩
  · have hr := (h.rows s).kept hg (by cases (V s).ownBlock <;> simp)
    simp only [Pl.cnt, List.drop_zero]
    rcases hr.2 with ⟨h1, h2⟩ | ⟨g, cap, cur, h1, h2, h3, h4, _, _, _⟩
    · exact Or.inl ⟨h1, List.eq_nil_of_length_eq_zero h2⟩
    · have hgl := ((h.rows s).lt g (by rw [h1]; rfl)).2
      refine Or.inr ⟨g, 0, cap, h1, h4, Nat.lt_of_lt_of_le hgl hg.size, by omega, by omega, fun j x hx => ?_⟩
      have := hr.cells (g := g) (by rw [h1]; rfl) j (.int .i64 (x : Int)) (by simp [nums, hx])
      rw [Addr.add_mid] at this
      exact this
  · refine ⟨?_, hown.frozenAt _⟩
    rw [Nat.zero_add, hown.cellAt j (by omega), List.getElem?_eq_getElem (by rw [hown.1]; omega)]
    rfl

theorem heap_setCell_alike {X Y : World} {A i : Nat} (v : Value) (h : X.heap[A]? = Y.heap[A]?) : (X.setCell ⟨A, i, none⟩ v).heap[A]? = (Y.setCell ⟨A, i, none⟩ v).heap[A]? := by
  simp only [World.setCell, Array.getElem?_modify, h]

/-- wf is W but for the map's block B, new blocks, and the answer at place i. -/
structure Wrote (W wf : World) (B A i : Nat) (x : Value) : Prop where
  os : wf.os = W.os
  tape : wf.tape = W.tape
  output : wf.output = W.output
  size : W.heap.size ≤ wf.heap.size
  other : ∀ g, g < W.heap.size → g ≠ B → g ≠ A → wf.heap[g]? = W.heap[g]?
  row : wf.heap[A]? = (W.setCell ⟨A, i, none⟩ x).heap[A]?

theorem Wrote.first {W X Y : World} {B A i : Nat} {x : Value} (hA : A < W.heap.size) (hAB : A ≠ B) (h1 : (W.setCell ⟨A, i, none⟩ x).drew.grownBy X (some B)) (h2 : X.grownBy Y (some B)) : Wrote W Y B A i x := by
  have h := grownBy_tr h1 h2
  have hs := grownBy_store W A i x
  refine ⟨h.os.trans hs.os, h.tape.trans hs.tape, h.output.trans hs.output, Nat.le_trans hs.size h.size, fun g hl hB hA' => ?_, h.block A (Nat.lt_of_lt_of_le hA hs.size) (by simpa using hAB)⟩
  exact (h.block g (Nat.lt_of_lt_of_le hl hs.size) (by simpa using hB)).trans (hs.block g hl (by simpa using hA'))

theorem Wrote.mid {W X Y : World} {B A i : Nat} {x : Value} (hA : A < W.heap.size) (hAB : A ≠ B) (h1 : W.drew.grownBy X (some B)) (h2 : (X.setCell ⟨A, i, none⟩ x).grownBy Y (some B)) : Wrote W Y B A i x := by
  have hs := grownBy_store X A i x
  have hAX : A < X.heap.size := Nat.lt_of_lt_of_le hA h1.size
  refine ⟨h2.os.trans (hs.os.trans h1.os), h2.tape.trans (hs.tape.trans h1.tape), h2.output.trans (hs.output.trans h1.output), Nat.le_trans h1.size (Nat.le_trans hs.size h2.size), fun g hl hB hA' => ?_, ?_⟩
  · have hX : g < X.heap.size := Nat.lt_of_lt_of_le hl h1.size
    exact (h2.block g (Nat.lt_of_lt_of_le hX hs.size) (by simpa using hB)).trans ((hs.block g hX (by simpa using hA')).trans (h1.block g hl (by simpa using hB)))
  · rw [h2.block A (Nat.lt_of_lt_of_le hAX hs.size) (by simpa using hAB)]
    exact heap_setCell_alike x (h1.block A hA (by simpa using hAB))

theorem Wrote.last {W X Y : World} {B A i : Nat} {x : Value} (hA : A < W.heap.size) (hAB : A ≠ B) (h1 : W.drew.grownBy X (some B)) (h2 : X.grownBy Y (some B)) : Wrote W (Y.setCell ⟨A, i, none⟩ x) B A i x := by
  have h := grownBy_tr h1 h2
  have hs := grownBy_store Y A i x
  refine ⟨hs.os.trans h.os, hs.tape.trans h.tape, hs.output.trans h.output, Nat.le_trans h.size hs.size, fun g hl hB hA' => ?_, ?_⟩
  · exact (hs.block g (Nat.lt_of_lt_of_le hl h.size) (by simpa using hA')).trans (h.block g hl (by simpa using hB))
  · exact heap_setCell_alike x (h.block A hA (by simpa using hAB))

theorem Ph2.fin {w W wf : World} {B A R S : Nat} {F G : Nat → Blk} {i : Nat} {V : List UInt8 → Value} (h : Ph2 w W B A R S F G i V) (hi : i < S) {s : List UInt8} (hs : rk G i = some s) {x : Nat} {L : List Nat} (hd : (Pl.calls (uk F) s R).drop (Pl.cnt (rk G) s i) = x :: L)
    {tv : Value} (hW : Waits wf B (R + i + 1) (upd V s tv)) (ht : Rd W B A tv L) (hr : Wrote W wf B A i (.int .i64 (x : Int))) : Ph2 w wf B A R S F G (i + 1) (upd V s tv) := by
  have hc : ∀ o, wf.cell? ⟨A, o, none⟩ = (W.setCell ⟨A, i, none⟩ (.int .i64 (x : Int))).cell? ⟨A, o, none⟩ := fun o => World.cell?_of_block hr.row
  have hf : ∀ o, wf.frozen? ⟨A, o, none⟩ = (W.setCell ⟨A, i, none⟩ (.int .i64 (x : Int))).frozen? ⟨A, o, none⟩ := fun o => World.frozen?_of_block hr.row
  refine h.hit hs hd hW ht hr.size hr.other (fun j hj => ?_) (fun j hj => ?_) ?_ ?_
  · rw [hc, hf]; exact there_store h.there _ j hj
  · rw [hc, World.cell?_setCell_other _ _ _ _ (by intro e; injection e with _ e2; omega)]
  · rw [hc]; exact cell_mark h.there hi _
  · exact h.below.trans ⟨hr.os, hr.tape, hr.output, hr.size, fun g hg => hr.other g (by have := h.below.size; omega) (by have := h.old.2.1; omega) (by have := h.old.1; omega)⟩

/-- The three orders of 'answered[i], waiting[s] = x, tail': what each needs on its way, and that each ends well. -/
theorem Ph2.orders {w W W1 W1a : World} {B A R S : Nat} {F G : Nat → Blk} {i : Nat} {V : List UInt8 → Value} (h : Ph2 w W B A R S F G i V) (hi : i < S) {s : List UInt8} (hs : rk G i = some s) {x : Nat} {L : List Nat} (hd : (Pl.calls (uk F) s R).drop (Pl.cnt (rk G) s i) = x :: L)
    {tv : Value} (ht : Rd W B A tv L) {st sta : Nat} (hgE : W.drew.grownBy W1 (some B)) (hgEa : (W.setCell ⟨A, i, none⟩ (.int .i64 (x : Int))).drew.grownBy W1a (some B))
    (hE : ∀ (w2 : World) (v : Value), w2.heap[B]? = W1.heap[B]? → B < w2.heap.size → ∃ w3, (Instr.entryStore 44 (.map (some B)) (goInt st) v).run Try.prog w2 = .ok () w3 ∧ w2.grownBy w3 (some B) ∧ Waits w3 B (R + i + 1) (upd V s v))
    (hEa : ∀ (w2 : World) (v : Value), w2.heap[B]? = W1a.heap[B]? → B < w2.heap.size → ∃ w3, (Instr.entryStore 44 (.map (some B)) (goInt sta) v).run Try.prog w2 = .ok () w3 ∧ w2.grownBy w3 (some B) ∧ Waits w3 B (R + i + 1) (upd V s v)) :
    ∃ W3a W3b W3c, (Instr.entryStore 44 (.map (some B)) (goInt sta) tv).run Try.prog W1a = .ok () W3a ∧ (Instr.entryStore 44 (.map (some B)) (goInt st) tv).run Try.prog (W1.setCell ⟨A, i, none⟩ (.int .i64 (x : Int))) = .ok () W3b ∧ (Instr.entryStore 44 (.map (some B)) (goInt st) tv).run Try.prog W1 = .ok () W3c ∧
      Ph2 w W3a B A R S F G (i + 1) (upd V s tv) ∧ Ph2 w W3b B A R S F G (i + 1) (upd V s tv) ∧ Ph2 w (W3c.setCell ⟨A, i, none⟩ (.int .i64 (x : Int))) B A R S F G (i + 1) (upd V s tv) ∧
      (∀ b o u, b ≠ B → ¬ A = b → W.cell? ⟨b, o, none⟩ = some u → W1a.cell? ⟨b, o, none⟩ = some u ∧ W3a.cell? ⟨b, o, none⟩ = some u ∧ W1.cell? ⟨b, o, none⟩ = some u ∧ W3b.cell? ⟨b, o, none⟩ = some u ∧ W3c.cell? ⟨b, o, none⟩ = some u) ∧
      (∀ u, W.cell? ⟨A, i, none⟩ = some u → W1.cell? ⟨A, i, none⟩ = some u ∧ W3c.cell? ⟨A, i, none⟩ = some u) ∧ W1.frozen? ⟨A, i, none⟩ = false ∧ W3c.frozen? ⟨A, i, none⟩ = false := by
  have hAB := h.old.2.2
  have hAl := h.lt
  have hBl := h.map.lt
  have hBs := grownBy_store W A i (.int .i64 (x : Int))
  have hB1 : B < W1.heap.size := Nat.lt_of_lt_of_le hBl hgE.size
  obtain ⟨W3a, ra, ga, wa⟩ := hEa W1a tv rfl (Nat.lt_of_lt_of_le hBl (Nat.le_trans hBs.size hgEa.size))
  obtain ⟨W3b, rb, gb, wb⟩ := hE (W1.setCell ⟨A, i, none⟩ (.int .i64 (x : Int))) tv (Below.heap_setCell _ _ _ _ (fun e => hAB e.symm)) (Nat.lt_of_lt_of_le hB1 (grownBy_store W1 A i _).size)
  obtain ⟨W3c, rc, gc, wc⟩ := hE W1 tv rfl hB1
  have hf1 : W1.frozen? ⟨A, i, none⟩ = false := by
    rw [World.frozen?_of_block (w := W) (a := ⟨A, i, none⟩) (hgE.block A hAl (by simpa using hAB))]
    have := (h.there i hi).2
    rwa [Nat.zero_add] at this
  refine ⟨W3a, W3b, W3c, ra, rb, rc, h.fin hi hs hd wa ht (Wrote.first hAl hAB hgEa ga), h.fin hi hs hd wb ht (Wrote.mid hAl hAB hgE gb), h.fin hi hs hd (wc.kept (grownBy_store W3c A i _) (by simpa using fun e => hAB e.symm)) ht (Wrote.last hAl hAB hgE gc), fun b o u hb hA hu => ?_, fun u hu => ?_, hf1, ?_⟩
  · have q1 : W1.cell? ⟨b, o, none⟩ = some u := hgE.cell (w := W.drew) hu (by simpa using hb)
    have q2 : W1a.cell? ⟨b, o, none⟩ = some u := hgEa.cell (w := (W.setCell ⟨A, i, none⟩ (.int .i64 (x : Int))).drew) (hBs.cell hu (by simpa using fun e => hA e.symm)) (by simpa using hb)
    exact ⟨q2, ga.cell q2 (by simpa using hb), q1, gb.cell ((grownBy_store W1 A i _).cell q1 (by simpa using fun e => hA e.symm)) (by simpa using hb), gc.cell q1 (by simpa using hb)⟩
  · have q1 : W1.cell? ⟨A, i, none⟩ = some u := hgE.cell (w := W.drew) hu (by simpa using hAB)
    exact ⟨q1, gc.cell q1 (by simpa using hAB)⟩
  · rw [World.frozen?_of_block (w := W1) (a := ⟨A, i, none⟩) (gc.block A (Nat.lt_of_lt_of_le hAl hgE.size) (by simpa using hAB))]
    exact hf1

end Go.Proofs.Qxb6629352a
