/-
  Seat b6629352a. THE WALK of zzToCore (7): a fresh deep copy.
-/
import Derived.Test.Qxb6629352aBase
import Derived.Deep.RegionHeld3
import Derived.Deep.DrawnRows
import Derived.Laws.CopyOwn
namespace Go.Proofs.Qxb6629352a
open Go.RowKit
attribute [local go_sem ↓] Go.wp_at_zero Go.wp_at_succ

theorem Try.info42 : (Try.prog.info? 42).map (fun i => (i.zero, i.size, i.bytes)) = some (some (.agg #[.string ByteArray.empty, .string ByteArray.empty, .string ByteArray.empty, .string ByteArray.empty, .slice none 0 0, .string ByteArray.empty, .string ByteArray.empty, .bool false]), 8, 128) := by kernel_rfl
theorem Try.info5 : (Try.prog.info? 5).map (fun i => (i.zero, i.size, i.bytes)) = some (some (.int .u8 0), 1, 1) := by kernel_rfl

/-- The same but for the Input. -/
def Same (a b : Blk) : Prop := a.ty = b.ty ∧ a.id = b.id ∧ a.tu = b.tu

/-- The bytes of a block's Input can be read. -/
def Blk.input (w : World) (b : Blk) : Prop := ∀ a, b.ia = some a → ∃ cs : List Value, cs.length = b.il ∧ (∀ v ∈ cs, v.oneCell' = true) ∧ ∀ j v, cs[j]? = some v → w.cell? (a.add j) = some v

theorem there_of_owns {w : World} {base : Nat} {e : TypeId} {size g n cap : Nat} {xs : List Value} (h : w.ownsRow base e size (.slice (some ⟨g, 0, none⟩) n cap) n xs) : w.there g 0 (n * size) := fun j hj => by
  refine ⟨?_, h.frozenAt _⟩
  rw [Nat.zero_add, h.cellAt j hj, List.getElem?_eq_getElem (by rw [h.1]; exact hj)]
  rfl

theorem grownBy_trans {a b c : World} {r : Option Nat} (h : a.grownBy b r) (k : b.grownBy c r) : a.grownBy c r :=
  ⟨k.os.trans h.os, k.tape.trans h.tape, k.output.trans h.output, Nat.le_trans h.size k.size, fun i hi hr => (k.block i (Nat.lt_of_lt_of_le hi h.size) hr).trans (h.block i hi hr)⟩

theorem grownBy_setRow (w : World) (g : Nat) (cs : Array Value) : w.grownBy (w.setRow g cs) (some g) :=
  ⟨rfl, rfl, rfl, by simp [World.setRow], fun k _ hk => setRow_other w g k cs (fun e => hk (by rw [e]))⟩

/-- 'in := make([]byte, n); copy(in, src)': THE COPY into a row just made: nothing else turns. -/
theorem wpList_copy_made {P : Program} {w : World} {ops : Array Oper} {rest : List Oper} {o : Oper} {a : Act} {Q : Exit → Act → World → Prop} (hgd : o.guard = none) (d s : Operand) (dT sT : TypeId)
    (ho : o.op = .call { callee := .builtin .copy, args := #[d, s], argTypes := #[dT, sT] }) (elem : TypeId) (hu : P.underlying dT = some (.slice elem)) (hsz : (P.info? elem).map (·.size) = some 1)
    (base g n : Nat) (ad : Addr) (sCap : Nat) (xs : List Value) (hd : a.eval d = .slice (some ⟨g, 0, none⟩) n n) (hs : a.eval s = .slice (some ad) n sCap)
    (hown : w.ownsRow base elem 1 (.slice (some ⟨g, 0, none⟩) n n) n xs) (cs : List Value) (hn : cs.length = n)
    (hsrc : ∀ j v, cs[j]? = some v → w.cell? (ad.add j) = some v) (h1 : ∀ v ∈ cs, v.oneCell' = true)
    (h : ∀ r w', w.grownBy w' (some g) → wpList P ops Q rest (a.put o.dst (goInt r)) w') : wpList P ops Q (o :: rest) a w := by
  rcases hown.2 with ⟨h0, _⟩ | ⟨g', cap, cur, hv, _, hg, _, _, hcs, _⟩
  · cases h0
  · simp only [Value.slice.injEq, Option.some.injEq, Addr.mk.injEq] at hv
    obtain ⟨⟨rfl, _⟩, _, rfl⟩ := hv
    exact wpList_copy_own hgd d s dT sT ho elem hu hsz g 0 n n ad n sCap hd hs cur elem hg cs (by simp [hn]) hsrc (by omega) h1 (h _ _ (grownBy_setRow w g _))

/-- The rows that stand after k rounds. -/
structure Copied (w wr : World) (g n k : Nat) (F : Nat → Blk) : Prop where
  there : wr.there g 0 (n * 8)
  lt : g < wr.heap.size
  below : Below w.heap.size w wr
  rows : ∃ F' : Nat → Blk, (∀ i, i < k → Same (F' i) (F i)) ∧ Blocks wr g 0 k F'

/-- Other blocks' work leaves the rows alone. -/
theorem Copied.kept {w wr w' : World} {g n k : Nat} {F : Nat → Blk} (h : Copied w wr g n k F) {r : Option Nat} (hg : wr.grownBy w' r) (hr : ∀ x, r = some x → x ≠ g ∧ w.heap.size ≤ x) : Copied w w' g n k F := by
  have hlt := h.lt
  have hne : some g ≠ r := fun e => (hr g e.symm).1 rfl
  have hc : ∀ o, w'.cell? ⟨g, o, none⟩ = wr.cell? ⟨g, o, none⟩ := fun o => World.cell?_of_block (hg.block g hlt hne)
  have hf : ∀ o, w'.frozen? ⟨g, o, none⟩ = wr.frozen? ⟨g, o, none⟩ := fun o => World.frozen?_of_block (hg.block g hlt hne)
  obtain ⟨F', h1, h2⟩ := h.rows
  exact ⟨fun j hj => by rw [hc, hf]; exact h.there j hj, Nat.lt_of_lt_of_le hlt hg.size, h.below.grown hg h.below.size (fun x hx => (hr x hx).2), F', h1, fun i hi j v hv => by rw [hc]; exact h2 i hi j v hv⟩

theorem Copied.drew {w wr : World} {g n k : Nat} {F : Nat → Blk} (h : Copied w wr g n k F) : Copied w wr.drew g n k F :=
  h.kept (r := none) ⟨rfl, rfl, rfl, Nat.le_refl _, fun _ _ _ => rfl⟩ (by simp)

theorem Copied.start {w w1 : World} {n : Nat} {F : Nat → Blk} {xs : List Value} (hown : w1.ownsRow w.heap.size 42 8 (.slice (some ⟨w.heap.size, 0, none⟩) n n) n xs) (hgr : w.grownBy w1 none) : Copied w w1 w.heap.size n 0 F := by
  refine ⟨there_of_owns hown, (hown.lt w.heap.size rfl).2, (Below.refl _ _).grown hgr (Nat.le_refl _) (by simp), F, fun i h => absurd h (by omega), fun i h => absurd h (by omega)⟩

/-- One block more: eight cells stored. -/
theorem Copied.store {w wr : World} {g n k : Nat} {F : Nat → Blk} (h : Copied w wr g n k F) (hk : k < n) (hg : w.heap.size ≤ g) (c : Blk) (hc : Same c (F k)) : Copied w (wr.setCells g (k * 8) c.cells) g n (k + 1) F := by
  have ht : wr.there g (k * 8) c.cells.length := fun j hj => by
    have := h.there (k * 8 + j) (by simp [Blk.cells] at hj; omega)
    rwa [Nat.zero_add] at this
  obtain ⟨F', h1, h2⟩ := h.rows
  refine ⟨World.there_setCells h.there _ _ _, ?_, ?_, fun i => if i = k then c else F' i, fun i hi => ?_, fun i hi => ?_⟩
  · have := (World.keptBut_setCells (may := fun _ => True) g c.cells (k * 8) wr (fun _ _ => trivial)).size
    exact Nat.lt_of_lt_of_le h.lt this
  · have : ∀ (vs : List Value) (o : Nat) (x : World), Below w.heap.size w x → Below w.heap.size w (x.setCells g o vs) := by
      intro vs
      induction vs with
      | nil => intro o x hx; exact hx
      | cons v r ih => intro o x hx; exact ih _ _ (hx.setCell (p := ⟨g, o, none⟩) hg v)
    exact this _ _ _ h.below
  · by_cases e : i = k
    · subst e; simpa using hc
    · simpa [e] using h1 i (by omega)
  · by_cases e : i = k
    · subst e
      simp only [if_true, Nat.zero_add]
      exact World.rangeAt_setCells_same wr g _ _ ht
    · simp only [e, if_false]
      have h3 := h2 i (by omega)
      rw [Nat.zero_add] at h3 ⊢
      exact World.rangeAt_setCells_apart h3 g _ _ (Or.inr (Or.inl (by simp [Blk.cells]; omega)))

/-- What zzToCore leaves. -/
def CoreP (n : Nat) (F : Nat → Blk) (w : World) (e : Ending) (w' : World) : Prop :=
  ∃ g F', e = .returned (.slice (some ⟨g, 0, none⟩) n n) ∧ w.heap.size ≤ g ∧ g < w'.heap.size ∧ w'.there g 0 (n * 8) ∧ (∀ i, i < n → Same (F' i) (F i)) ∧ Blocks w' g 0 n F' ∧ Below w.heap.size w w'

set_option maxRecDepth 10000 in
set_option maxHeartbeats 1000000 in
theorem toCore_some (b off n cap : Nat) (F : Nat → Blk) (w : World) (hn : n ≤ 4096) (hb : b < w.heap.size) (hF : Blocks w b off n F) (hin : ∀ i, i < n → (F i).input w) (hil : ∀ i, i < n → (F i).il ≤ 1048576) :
    Calls Try.prog 7 #[.slice (some ⟨b, off, none⟩) n cap] w fun e w' => CoreP n F w e w' := by
  obtain ⟨i0, hi, hz0, hz1, hz2⟩ := info_parts Try.info42
  obtain ⟨i5, hi5, hy0, hy1, hy2⟩ := info_parts Try.info5
  have HI : Hid (Try.prog.info? 42 = some i0 ∧ i0.zero = some (.agg #[.string ByteArray.empty, .string ByteArray.empty, .string ByteArray.empty, .string ByteArray.empty, .slice none 0 0, .string ByteArray.empty, .string ByteArray.empty, .bool false]) ∧ i0.size = 8 ∧ i0.bytes = 128) := ⟨hi, hz0, hz1, hz2⟩
  have HI5 : Hid (Try.prog.info? 5 = some i5 ∧ i5.zero = some (.int .u8 0) ∧ i5.size = 1 ∧ i5.bytes = 1) := ⟨hi5, hy0, hy1, hy2⟩
  clear hi hz0 hz1 hz2 hi5 hy0 hy1 hy2
  have HF : Hid (Blocks w b off n F) := hF
  have HN : Hid (∀ i, i < n → (F i).input w) := hin
  have HL : Hid (∀ i, i < n → (F i).il ≤ 1048576) := hil
  clear hF hin hil
  have hneq := fun (wx : World) (a : Option Addr) (l c : Nat) => run_neq_slice_nil_any (P := Try.prog) wx 34 5 a l c 0 0 Try.underlying34
  go_enter Try.func7, Try.ntmps7
  go_wp2_with (at_make; refine wpList_make_full _ rfl (.tmp 7) (.tmp 7) 25 rfl w.heap.size 42 i0 _ 8 Try.underlying25 HI.out.1 HI.out.2.1 HI.out.2.2.1 .i64 .i64 n n n rfl rfl rfl rfl (by rw [HI.out.2.2.2]; omega) (by unfold maxLen; omega) (Nat.le_refl _) ?_; intro w1 hown hgr)
  have H0 : Hid (Copied w w1 w.heap.size n 0 F) := Copied.start hown hgr
  clear hown hgr
  go_loopw [4] (fun i wr => ∃ k : Nat, k ≤ n ∧ i = .int .i64 k ∧ Hid (Copied w wr w.heap.size n k F)) (fun i _ => n - (intOf i).toNat)
  case atStart => exact ⟨0, Nat.zero_le _, rfl, H0⟩
  case round =>
    obtain ⟨k, hk, rfl, hC⟩ := hrel
    by_cases hlt : k < n
    · have hlt' : (k : Int) < (n : Int) := by omega
      have hk1 : (0 : Int) ≤ (k : Int) := by omega
      obtain ⟨c0, c1, c2, c3, c4, c5, c6, c7⟩ : _ ∧ _ ∧ _ ∧ _ ∧ _ ∧ _ ∧ _ ∧ _ := Blocks.at (w := wr) (b := b) (off := off) (n := n) (F := F) (fun i hi j v hv => (hC.out.below.cell hb).trans (HF.out i hi j v hv)) hlt
      go_upto_if 20 with fail
      go_cut [5] (fun v wc => ∃ (ia : Option Addr) (il ic : Nat), v = .slice ia il ic ∧ Hid (Copied w wc w.heap.size n k F))
      case first =>
        cases hia : (F k).ia with
        | none =>
          rw [hia] at c4
          go_wp2
          go_meet
          case rel => exact ⟨none, 0, 0, rfl, hC⟩
        | some a =>
          obtain ⟨cs, hcl, hc1, hcc⟩ := HN.out k hlt a hia
          have hll := HL.out k hlt
          rw [hia] at c4
          obtain ⟨il, hil⟩ : ∃ il, il = (F k).il := ⟨_, rfl⟩
          rw [← hil] at c4 hcl hll
          have hsrc : Hid (∀ (w' : World), wr.grownBy w' none → ∀ j v, cs[j]? = some v → w'.cell? (a.add j) = some v) := fun w' hg j v hv =>
            hg.cell ((hC.out.below.cell (World.block_lt_of_cell? w _ (hcc j v hv))).trans (hcc j v hv)) (by simp)
          have hcl' : Hid (cs.length = il) := hcl
          have hc1' : Hid (∀ v ∈ cs, v.oneCell' = true) := hc1
          clear hcl hc1 hcc hil hia c0 c1 c2 c3 c5 c6 c7
          have hsz5 : (Try.prog.info? 5).map (·.size) = some 1 := by rw [HI5.out.1]; simp [HI5.out.2.2.1]
          have HS5 : Hid ((Try.prog.info? 5).map (·.size) = some 1) := hsz5
          clear hsz5
          go_wp2_with (first
            | (at_make; refine wpList_make_full _ rfl (.tmp 26) (.tmp 26) 34 rfl wr.heap.size 5 i5 _ 1 Try.underlying34 HI5.out.1 HI5.out.2.1 HI5.out.2.2.1 .i64 .i64 il il il rfl rfl rfl rfl (by rw [HI5.out.2.2.2]; omega) (by unfold maxLen; omega) (Nat.le_refl _) ?_; intro w1 hown1 hgr1; have c4' := hgr1.cell c4 (by simp); have HO := hown1; have HG1 : Hid (wr.grownBy w1 none) := hgr1; clear hgr1)
            | (refine wpList_copy_made rfl (.tmp 28) (.tmp 33) 34 34 rfl 5 Try.underlying34 HS5.out wr.heap.size wr.heap.size il a (F k).ic _ rfl rfl HO cs hcl'.out (hsrc.out _ HG1.out) hc1'.out ?_; intro rr w2 hgr2))
          go_meet
          case rel => exact ⟨some ⟨wr.heap.size, 0, none⟩, il, il, rfl, (hC.out.kept HG1.out (by simp)).kept hgr2 (fun x hx => by have := hC.out.below.size; have := hC.out.lt; cases hx; omega)⟩
      case rest =>
        obtain ⟨ia, il, ic, rfl, hD⟩ := hcut
        clear c0 c1 c2 c3 c4 c5 c6 c7 hC
        obtain ⟨c0, c1, c2, c3, c4, c5, c6, c7⟩ : _ ∧ _ ∧ _ ∧ _ ∧ _ ∧ _ ∧ _ ∧ _ := Blocks.at (w := wc) (b := b) (off := off) (n := n) (F := F) (fun i hi j v hv => (hD.out.below.cell hb).trans (HF.out i hi j v hv)) hlt
        clear c4
        have hth : wc.there w.heap.size 0 (n * 8) := hD.out.there
        obtain ⟨v0, e0⟩ := Option.isSome_iff_exists.1 (hth (k * 8) (by omega)).1
        obtain ⟨v1, e1⟩ := Option.isSome_iff_exists.1 (hth (k * 8 + 1) (by omega)).1
        obtain ⟨v2, e2⟩ := Option.isSome_iff_exists.1 (hth (k * 8 + 2) (by omega)).1
        obtain ⟨v3, e3⟩ := Option.isSome_iff_exists.1 (hth (k * 8 + 3) (by omega)).1
        obtain ⟨v4, e4⟩ := Option.isSome_iff_exists.1 (hth (k * 8 + 4) (by omega)).1
        obtain ⟨v5, e5⟩ := Option.isSome_iff_exists.1 (hth (k * 8 + 5) (by omega)).1
        obtain ⟨v6, e6⟩ := Option.isSome_iff_exists.1 (hth (k * 8 + 6) (by omega)).1
        obtain ⟨v7, e7⟩ := Option.isSome_iff_exists.1 (hth (k * 8 + 7) (by omega)).1
        have f0 := (hth (k * 8) (by omega)).2
        have f1 := (hth (k * 8 + 1) (by omega)).2
        have f2 := (hth (k * 8 + 2) (by omega)).2
        have f3 := (hth (k * 8 + 3) (by omega)).2
        have f4 := (hth (k * 8 + 4) (by omega)).2
        have f5 := (hth (k * 8 + 5) (by omega)).2
        have f6 := (hth (k * 8 + 6) (by omega)).2
        have f7 := (hth (k * 8 + 7) (by omega)).2
        simp only [Nat.zero_add] at e0 e1 e2 e3 e4 e5 e6 e7 f0 f1 f2 f3 f4 f5 f6 f7
        clear hth
        have hbg : ¬ b = w.heap.size := by omega
        have hob : ∀ (W : World) (o o' : Nat) (v : Value), (W.setCell ⟨w.heap.size, o', none⟩ v).cell? ⟨b, o, none⟩ = W.cell? ⟨b, o, none⟩ := fun W o o' v => World.cell?_setCell_other _ _ _ _ (fun e => hbg (by injection e with e1; exact e1.symm))
        have hfin : Hid (Copied w (wc.setCells w.heap.size (k * 8) ({ (F k) with ia := ia, il := il, ic := ic } : Blk).cells) w.heap.size n (k + 1) F) := hD.out.store hlt (Nat.le_refl _) _ ⟨rfl, rfl, rfl⟩
        go_upto_region 9 with fail
        go_region_held3 (fun w' => w'.cell? ⟨b, off + k * 8, none⟩ = some (.string (F k).ty) ∧ w'.cell? ⟨b, off + k * 8 + 1, none⟩ = some (.string (F k).text) ∧ w'.cell? ⟨b, off + k * 8 + 2, none⟩ = some (.string (F k).id) ∧ w'.cell? ⟨b, off + k * 8 + 3, none⟩ = some (.string (F k).name) ∧ w'.cell? ⟨b, off + k * 8 + 5, none⟩ = some (.string (F k).tu) ∧ w'.cell? ⟨b, off + k * 8 + 6, none⟩ = some (.string (F k).content) ∧ w'.cell? ⟨b, off + k * 8 + 7, none⟩ = some (.bool (F k).err)) (go_keep) (fail)
        clear e0 e1 e2 e3 e4 e5 e6 e7 f0 f1 f2 f3 f4 f5 f6 f7 hob
        go_wp2
        go_roundw
        case rel => exact ⟨k + 1, by omega, by go_num, hfin.out.drew⟩
        case measure => simp [intOf]; omega
    · go_wp2
      go_ret
      obtain ⟨F', h1, h2⟩ := hC.out.rows
      obtain rfl : k = n := by omega
      exact ⟨_, F', rfl, Nat.le_refl _, hC.out.lt, hC.out.there, h1, h2, hC.out.below⟩

set_option maxRecDepth 10000 in
set_option maxHeartbeats 400000 in
theorem toCore_none (ao : Option Addr) (cap : Nat) (F : Nat → Blk) (w : World) : Calls Try.prog 7 #[.slice ao 0 cap] w fun e w' => CoreP 0 F w e w' := by
  obtain ⟨i0, hi, hz0, hz1, hz2⟩ := info_parts Try.info42
  go_enter Try.func7, Try.ntmps7
  go_wp2_with (at_make; refine wpList_make_full _ rfl (.tmp 7) (.tmp 7) 25 rfl w.heap.size 42 i0 _ 8 Try.underlying25 hi hz0 hz1 .i64 .i64 0 0 0 rfl rfl rfl rfl (by omega) (by unfold maxLen; omega) (Nat.le_refl _) ?_; intro w1 hown hgr)
  have H0 : Hid (Copied w w1 w.heap.size 0 0 F) := Copied.start hown hgr
  clear hown hgr
  refine wp_loop_rounds 1 ?_
  rw [rounds_succ]
  go_wp2
  go_ret
  obtain ⟨F', h1, h2⟩ := H0.out.rows
  exact ⟨_, F', rfl, Nat.le_refl _, H0.out.lt, H0.out.there, h1, h2, H0.out.below⟩

/-- ████ zzToCore. -/
theorem toCore_any (ao : Option Addr) (n cap : Nat) (F : Nat → Blk) (w : World) (hn : n ≤ 4096) (hF : Args w ao n F) (hin : ∀ i, i < n → (F i).input w) (hil : ∀ i, i < n → (F i).il ≤ 1048576) :
    Calls Try.prog 7 #[.slice ao n cap] w fun e w' => CoreP n F w e w' := by
  by_cases h0 : n = 0
  · subst h0; exact toCore_none ao cap F w
  · obtain ⟨b, off, rfl, hb, hB⟩ := hF (by omega)
    exact toCore_some b off n cap F w hn hb hB hin hil
end Go.Proofs.Qxb6629352a
