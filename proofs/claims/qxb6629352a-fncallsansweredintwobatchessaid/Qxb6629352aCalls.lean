/-
  Seat b6629352a. THE WALK of core.CallsAnswered (8).
-/
import Derived.Test.Qxb6629352aPh2
namespace Go.Proofs.Qxb6629352a
open Go.RowKit
attribute [local go_sem ↓] Go.wp_at_zero Go.wp_at_succ

theorem ph1_start (w : World) (r1 r2 : ByteArray) (rv sv : Value) (F : Nat → Blk) :
    Ph1 w (((w.alloc (.cells #[.string r1, rv] 31)).alloc (.cells #[.string r2, sv] 31)).alloc (.map #[] 0)) sv F 0 (fun _ => .slice none 0 0) := by
  obtain ⟨W, hW⟩ : ∃ W : World, W = (w.alloc (.cells #[.string r1, rv] 31)).alloc (.cells #[.string r2, sv] 31) := ⟨_, rfl⟩
  have hs : W.heap.size = w.heap.size + 1 + 1 := by rw [hW]; simp
  have hb : Below w.heap.size w W := by rw [hW]; exact ((Below.refl _ _).alloc (Nat.le_refl _) _).alloc (by simp) _
  have hc : W.cell? ⟨w.heap.size + 1, 1, none⟩ = some sv := by
    have e1 : W.heap[w.heap.size + 1]? = some (.cells #[.string r2, sv] 31) := by
      have := heap_alloc_new (w.alloc (.cells #[.string r1, rv] 31)) (.cells #[.string r2, sv] 31)
      rw [hW]; simpa using this
    rw [cell_of_row _ _ _ _ _ _ e1]; rfl
  rw [← hW]
  refine ⟨?_, fun s => World.ownsRow_nil _ _ _ _, fun s t _ => Or.inl rfl, hb.alloc (by omega) _, ?_⟩
  · have := Waits.made W
    rw [hs] at this; exact this
  · exact (World.grownBy_alloc W _ none).cell hc (by simp)

/-- Behind the append: the store at the key, and the round's end. -/
theorem put_end {w W : World} {bx : Value} {F : Nat → Blk} {k : Nat} {V : List UInt8 → Value} (h : Ph1 w W bx F k V) (hu : uk F k = some (F k).id.toList) (hk : k < 4096) (hid : (F k).id.size ≤ maxLen) {v : Value} (hv : v = V (F k).id.toList)
    {o : Obj} {w1 : World} {g cap n1 : Nat} {xs1 : List Value} (hn : n1 = (Pl.calls (uk F) (F k).id.toList k).length ∧ xs1 = nums (Pl.calls (uk F) (F k).id.toList k))
    (hown : w1.ownsRow (w.heap.size + 1 + 1 + 1) 3 1 (.slice (some ⟨g, 0, none⟩) (n1 + 1) cap) (n1 + 1) (xs1 ++ [.int .i64 (k : Int)]))
    (hgr : (W.alloc o).drew.grownBy w1 v.ownBlock) (hat : v.ownBlock = some g ∨ g = W.heap.size + 1) {c : Nat} {x : Value} (hc : W.cell? ⟨c, 2, none⟩ = some x) (hcb : some c ≠ v.ownBlock) (hcm : c ≠ w.heap.size + 1 + 1) :
    ∃ w2, (Instr.mapUpdate 44 (.map (some (w.heap.size + 1 + 1))) (.string (F k).id) (.slice (some ⟨g, 0, none⟩) (n1 + 1) cap)).run Try.prog w1 = .ok () w2 ∧ (∃ V', Ph1 w w2 bx F (k + 1) V') ∧ w1.cell? ⟨c, 2, none⟩ = some x ∧ w2.cell? ⟨c, 2, none⟩ = some x := by
  obtain ⟨rfl, rfl⟩ := hn
  subst hv
  have hg1 : W.grownBy w1 (V (F k).id.toList).ownBlock :=
    ⟨hgr.os, hgr.tape, hgr.output, Nat.le_trans (by simp) hgr.size, fun i hi hr => (hgr.block i (by simp; omega) hr).trans (Below.heap_alloc _ _ _ hi)⟩
  have hbne : some (w.heap.size + 1 + 1) ≠ (V (F k).id.toList).ownBlock := fun e => by have := ((h.rows _).lt _ e.symm).1; omega
  obtain ⟨w2, hrun, hW2, hg2⟩ := (h.map.kept hg1 hbne).store (by unfold maxLen; omega) hid (.slice (some ⟨g, 0, none⟩) ((Pl.calls (uk F) (F k).id.toList k).length + 1) cap)
  have hq1 := hg1.cell hc hcb
  exact ⟨w2, hrun, ⟨_, h.put hu hown hg1 (by rcases hat with h1 | h1; exact Or.inl h1; exact Or.inr (by omega)) hW2 hg2⟩, hq1, hg2.cell hq1 (by simpa using hcm)⟩

/-- What CallsAnswered leaves. -/
def CallsP (R S : Nat) (F G : Nat → Blk) (w : World) (e : Ending) (w' : World) : Prop :=
  ∃ g, e = .returned (.slice (some ⟨g, 0, none⟩) S S) ∧ w.heap.size ≤ g ∧ g < w'.heap.size ∧ (∀ i, i < S → w'.cell? ⟨g, i, none⟩ = some (.int .i64 (Pl.ans (uk F) R (rk G) i))) ∧ Below w.heap.size w w'

set_option maxRecDepth 10000 in
set_option maxHeartbeats 1000000 in
theorem calls_main (r1 r2 : ByteArray) (rb ro R rc sb so S sc : Nat) (F G : Nat → Blk) (w : World) (hR : R ≤ 4096) (hS : S ≤ 4096)
    (hrb : rb < w.heap.size) (hsb : sb < w.heap.size) (hF : Blocks w rb ro R F) (hG : Blocks w sb so S G) (hf : ∀ i, i < R → (F i).id.size ≤ maxLen) (hg : ∀ i, i < S → (G i).tu.size ≤ maxLen) :
    Calls Try.prog 8 #[.agg #[.string r1, .slice (some ⟨rb, ro, none⟩) R rc], .agg #[.string r2, .slice (some ⟨sb, so, none⟩) S sc]] w fun e w' => CallsP R S F G w e w' := by
  obtain ⟨i0, hi, hz0, hz1, hz2⟩ := info_parts Try.info3
  have HI : Hid (Try.prog.info? 3 = some i0 ∧ i0.zero = some (.int .i64 0) ∧ i0.size = 1 ∧ i0.bytes = 8) := ⟨hi, hz0, hz1, hz2⟩
  clear hi hz0 hz1 hz2
  have HF : Hid (Blocks w rb ro R F ∧ Blocks w sb so S G ∧ (∀ i, i < R → (F i).id.size ≤ maxLen) ∧ ∀ i, i < S → (G i).tu.size ≤ maxLen) := ⟨hF, hG, hf, hg⟩
  clear hF hG hf hg
  have hmm := @run_makeMap Try.prog
  go_enter Try.func8, Try.ntmps8
  go_wp2
  clear hmm
  go_loopw [16] (fun i wr => ∃ k : Nat, k ≤ R ∧ i = .int .i64 k ∧ ∃ V, Hid (Ph1 w wr (.slice (some ⟨sb, so, none⟩) S sc) F k V)) (fun i _ => R - (intOf i).toNat)
  case atStart => exact ⟨0, Nat.zero_le _, rfl, _, ph1_start w r1 r2 _ _ F⟩
  case round =>
    obtain ⟨k, hk, rfl, V, hP⟩ := hrel
    by_cases hlt : k < R
    · have hlt' : (k : Int) < (R : Int) := by omega
      obtain ⟨c0, c1, c2, c3, c4, c5, c6, c7⟩ : _ ∧ _ ∧ _ ∧ _ ∧ _ ∧ _ ∧ _ ∧ _ := Blocks.at (w := wr) (b := rb) (off := ro) (n := R) (F := F) (fun i hi j v hv => (hP.out.below.cell hrb).trans (HF.out.1 i hi j v hv)) hlt
      by_cases hu : isUse (F k) = true
      · have hu' : ((F k).ty.toList == [116, 111, 111, 108, 95, 117, 115, 101]) = true := hu
        have HU : Hid (uk F k = some (F k).id.toList) := by simp [Hid, uk, hu]
        clear hu
        go_upto_if 23 with fail
        have hP1 : Hid (∀ o, Ph1 w (wr.alloc o) (.slice (some ⟨sb, so, none⟩) S sc) F k V) := fun o => hP.out.kept (World.grownBy_alloc _ _ _)
        have hcW : Hid (∀ a b c d e f g, (wr.alloc (.cells #[a, b, .string (F k).id, c, d, e, f, g] 42)).cell? ⟨wr.heap.size, 2, none⟩ = some (.string (F k).id)) := fun a b c d e f g => by
          rw [cell_of_row _ _ _ _ _ _ (heap_alloc_new wr _)]; rfl
        obtain ⟨W, hW⟩ : ∃ W : World, W = wr.alloc (.cells #[.string (F k).ty, .string (F k).text, .string (F k).id, .string (F k).name, .slice (F k).ia (F k).il (F k).ic, .string (F k).tu, .string (F k).content, .bool (F k).err] 42) := ⟨_, rfl⟩
        rw [← hW]
        have cW : W.cell? ⟨wr.heap.size, 2, none⟩ = some (.string (F k).id) := by rw [hW]; exact hcW.out _ _ _ _ _ _ _
        have HP : Hid (Ph1 w W (.slice (some ⟨sb, so, none⟩) S sc) F k V) := by rw [hW]; exact hP1.out _
        have hcb : Hid (some wr.heap.size ≠ (V (F k).id.toList).ownBlock ∧ wr.heap.size ≠ w.heap.size + 1 + 1) := ⟨fun e => by have := ((hP.out.rows _).lt _ e.symm).2; omega, by have := hP.out.map.lt; omega⟩
        clear hP1 hcW hW c0 c1 c2 c3 c4 c5 c6 c7 hP
        obtain ⟨v, hv⟩ : ∃ v, v = V (F k).id.toList := ⟨_, rfl⟩
        have hidz : (F k).id.size ≤ maxLen := HF.out.2.2.1 k hlt
        have HV : Hid (v = V (F k).id.toList) := hv
        have hL1 : (Instr.lookup 44 (.map (some (w.heap.size + 1 + 1))) (.string (F k).id) false).run Try.prog W.drew = .ok v W.drew := by
          rw [hv]; exact (HP.out.kept (grownBy_drew W)).map.look hidz
        have hL2 : ∀ o, (Instr.lookup 44 (.map (some (w.heap.size + 1 + 1))) (.string (F k).id) false).run Try.prog (W.alloc o).drew = .ok v (W.alloc o).drew := fun o => by
          rw [hv]; exact ((HP.out.kept (World.grownBy_alloc W o none)).kept (grownBy_drew _)).map.look hidz
        obtain ⟨n1, xs1, hn1⟩ : ∃ (n1 : Nat) (xs1 : List Value), n1 = (Pl.calls (uk F) (F k).id.toList k).length ∧ xs1 = nums (Pl.calls (uk F) (F k).id.toList k) := ⟨_, _, rfl, rfl⟩
        have hn1k : n1 ≤ k := by rw [hn1.1, Pl.calls_length]; exact Pl.cnt_le _ _ _
        have HROW : Hid (∀ o, ((W.alloc o).drew).ownsRow (w.heap.size + 1 + 1 + 1) 3 1 v n1 xs1) := fun o => by
          rw [hv, hn1.1, hn1.2]; exact (HP.out.rows _).alloc o
        have HN1 : Hid (n1 = (Pl.calls (uk F) (F k).id.toList k).length ∧ xs1 = nums (Pl.calls (uk F) (F k).id.toList k)) := hn1
        have HNEW : Hid (∀ j u, [Value.int .i64 (k : Int)][j]? = some u → ((W.alloc (.cells #[.int .i64 (k : Int)] 3)).drew).cell? ((⟨W.heap.size, 0, none⟩ : Addr).add j) = some u) := cell_one_new _ _ _
        have HONE : Hid (∀ u ∈ [Value.int .i64 (k : Int)], u.oneCell' = true) := fun u hu => by simp at hu; subst hu; rfl
        have HBASE : Hid (∀ o, w.heap.size + 1 + 1 + 1 ≤ (W.alloc o).drew.heap.size) := fun o => by have := HP.out.map.lt; simp; omega
        have hcb1 : Hid (some wr.heap.size ≠ v.ownBlock) := by rw [hv]; exact hcb.out.1
        clear hv hn1
        go_wp2_with fail
        go_region_held3 (fun w' => w'.cell? ⟨wr.heap.size, 2, none⟩ = some (.string (F k).id)) (go_keep)
          ((refine step_append_lies _ (by rfl) (.tmp 30) (.tmp 32) 27 (by rfl) (w.heap.size + 1 + 1 + 1) 3 i0 (.int .i64 0) 1 8 Try.underlying27 HI.out.1 HI.out.2.1 HI.out.2.2.1 HI.out.2.2.2 (by rfl) (by decide) v n1 xs1 (by rfl) (HROW.out _) ⟨W.heap.size, 0, none⟩ 1 1 [.int .i64 (k : Int)] (by rfl) (by rfl) HNEW.out HONE.out (by decide) (by unfold maxLen; omega) (by omega) (HBASE.out _) (W.heap.size + 1) (by simp) ?_; intro g cap w1 hown1 hgrow hat hlt1; obtain ⟨w2, hrun2, hfin, q1, q2⟩ := put_end HP.out HU.out (by omega) hidz HV.out HN1.out hown1 hgrow hat cW hcb1.out hcb.out.2))
        all_goals
          clear hL1 hL2 hrun2
          go_wp2
          go_roundw
          case rel => exact ⟨k + 1, by omega, by go_num, hfin⟩
          case measure => simp [intOf]; omega
      · have hu' : ((F k).ty.toList == [116, 111, 111, 108, 95, 117, 115, 101]) = false := by simpa [isUse] using hu
        have HU : Hid (isUse (F k) = false) := hu'
        clear hu
        go_wp2
        go_roundw
        case rel => exact ⟨k + 1, by omega, by go_num, V, (hP.out.kept (World.grownBy_alloc _ _ _)).skip HU.out⟩
        case measure => simp [intOf]; omega
    · have hkR : k = R := by omega
      have hP' : Hid (Ph1 w wr (.slice (some ⟨sb, so, none⟩) S sc) F R V) := by rw [hkR] at hP; exact hP
      have hbx := hP'.out.box
      clear hP hkR
      go_wp2_with (at_make; refine wpList_make_full _ rfl (.tmp 37) (.tmp 37) 27 rfl wr.heap.size 3 i0 _ 1 Try.underlying27 HI.out.1 HI.out.2.1 HI.out.2.2.1 .i64 .i64 S S S rfl rfl rfl rfl (by rw [HI.out.2.2.2]; omega) (by unfold maxLen; omega) (Nat.le_refl _) ?_; intro w1 hown1 hgr1; have hbx1 := hgr1.cell hbx (by simp); have hT : Hid (Ph2 w w1 (w.heap.size + 1 + 1) wr.heap.size R S F G 0 V) := hP'.out.turn S G hown1 hgr1; clear hown1 hgr1)
      obtain ⟨A, hA⟩ : ∃ A, A = wr.heap.size := ⟨_, rfl⟩
      rw [← hA] at hT ⊢
      clear hbx hbx1 hP' hA hlt hk
      go_loopw [42] (fun i wr => ∃ j : Nat, j ≤ S ∧ i = .int .i64 j ∧ ∃ V, Hid (Ph2 w wr (w.heap.size + 1 + 1) A R S F G j V)) (fun i _ => S - (intOf i).toNat)
      case atStart => exact ⟨0, Nat.zero_le _, rfl, V, hT⟩
      case round =>
        clear hT
        obtain ⟨i, hi, rfl, V, hP⟩ := hrel
        by_cases hlt : i < S
        · have hlt' : (i : Int) < (S : Int) := by omega
          obtain ⟨c0, c1, c2, c3, c4, c5, c6, c7⟩ : _ ∧ _ ∧ _ ∧ _ ∧ _ ∧ _ ∧ _ ∧ _ := Blocks.at (w := wr) (b := sb) (off := so) (n := S) (F := G) (fun i hi j v hv => (hP.out.below.cell hsb).trans (HF.out.2.1 i hi j v hv)) hlt
          obtain ⟨u0, hu0⟩ := Option.isSome_iff_exists.1 (hP.out.there i hlt).1
          have hfz := (hP.out.there i hlt).2
          rw [Nat.zero_add] at hu0 hfz
          have hAlt := hP.out.lt
          go_upto_region 13 with fail
          obtain ⟨W, hW⟩ : ∃ W : World, W = (wr.setCell ⟨A, i, none⟩ (.int .i64 (-1))).alloc (.cells #[.string (G i).ty, .string (G i).text, .string (G i).id, .string (G i).name, .slice (G i).ia (G i).il (G i).ic, .string (G i).tu, .string (G i).content, .bool (G i).err] 42) := ⟨_, rfl⟩
          rw [← hW]
          have hblk : W.heap[wr.heap.size]? = some (.cells #[.string (G i).ty, .string (G i).text, .string (G i).id, .string (G i).name, .slice (G i).ia (G i).il (G i).ic, .string (G i).tu, .string (G i).content, .bool (G i).err] 42) := by
            have := heap_alloc_new (wr.setCell ⟨A, i, none⟩ (.int .i64 (-1))) (.cells #[.string (G i).ty, .string (G i).text, .string (G i).id, .string (G i).name, .slice (G i).ia (G i).il (G i).ic, .string (G i).tu, .string (G i).content, .bool (G i).err] 42)
            rw [hW]; simpa [World.setCell] using this
          have tyW : W.cell? ⟨wr.heap.size, 0, none⟩ = some (.string (G i).ty) := by rw [cell_of_row _ _ _ _ _ _ hblk]; rfl
          have tuW : W.cell? ⟨wr.heap.size, 5, none⟩ = some (.string (G i).tu) := by rw [cell_of_row _ _ _ _ _ _ hblk]; rfl
          have HP : Hid (Ph2 w W (w.heap.size + 1 + 1) A R S F G i V) := by rw [hW]; exact (hP.out.mark _).kept (World.grownBy_alloc _ _ _)
          have aW : W.cell? ⟨A, i, none⟩ = some (.int .i64 (-1)) := by rw [hW]; exact (World.grownBy_alloc _ _ none).cell (cell_mark hP.out.there hlt _) (by simp)
          have fW : W.frozen? ⟨A, i, none⟩ = false := by have := (HP.out.there i hlt).2; rwa [Nat.zero_add] at this
          have hneA : ¬ A = wr.heap.size := by omega
          have hneB : Hid (wr.heap.size ≠ w.heap.size + 1 + 1) := by have := hP.out.map.lt; show _ ≠ _; omega
          have htz : (G i).tu.size ≤ maxLen := HF.out.2.2.2 i hlt
          have hrdw : Hid (Rd wr (w.heap.size + 1 + 1) A (V (G i).tu.toList) ((Pl.calls (uk F) (G i).tu.toList R).drop (Pl.cnt (rk G) (G i).tu.toList i))) := hP.out.reads _
          clear hW hblk hu0 hfz hAlt c0 c1 c2 c3 c4 c5 c6 c7 hP
          obtain ⟨v, hv⟩ : ∃ v, v = V (G i).tu.toList := ⟨_, rfl⟩
          have HV : Hid (v = V (G i).tu.toList) := hv
          have hL1 : (Instr.lookup 44 (.map (some (w.heap.size + 1 + 1))) (.string (G i).tu) false).run Try.prog W = .ok v W := by
            rw [hv]; exact HP.out.map.look htz
          have hRd : Hid (Rd wr (w.heap.size + 1 + 1) A v ((Pl.calls (uk F) (G i).tu.toList R).drop (Pl.cnt (rk G) (G i).tu.toList i)) ∧ Rd W (w.heap.size + 1 + 1) A v ((Pl.calls (uk F) (G i).tu.toList R).drop (Pl.cnt (rk G) (G i).tu.toList i))) := by
            rw [hv]; exact ⟨hrdw.out, HP.out.reads _⟩
          clear hv hrdw
          by_cases hr : isRes (G i) = true
          · have hr' : ((G i).ty.toList == [116, 111, 111, 108, 95, 114, 101, 115, 117, 108, 116]) = true := hr
            have HRK : Hid (rk G i = some (G i).tu.toList) := by simp [Hid, rk, hr]
            clear hr
            obtain ⟨L, hL⟩ : ∃ L, L = (Pl.calls (uk F) (G i).tu.toList R).drop (Pl.cnt (rk G) (G i).tu.toList i) := ⟨_, rfl⟩
            rw [← hL] at hRd
            cases L with
            | nil =>
              have HL : Hid ((Pl.calls (uk F) (G i).tu.toList R).drop (Pl.cnt (rk G) (G i).tu.toList i) = []) := hL.symm
              clear hL
              obtain ⟨ao, cp, hv2⟩ : ∃ ao cp, v = .slice ao 0 cp := by
                rcases hRd.out.2 with ⟨h1, _⟩ | ⟨g, off, cap, h1, _⟩
                · exact ⟨_, _, h1⟩
                · exact ⟨_, _, h1⟩
              subst hv2
              go_wp2
              go_roundw
              case rel => exact ⟨i + 1, by omega, by go_num, V, HP.out.minus aW (Or.inr ⟨_, HRK.out, HL.out⟩)⟩
              case measure => simp [intOf]; omega
            | cons x L =>
              have HL : Hid ((Pl.calls (uk F) (G i).tu.toList R).drop (Pl.cnt (rk G) (G i).tu.toList i) = x :: L) := hL.symm
              clear hL
              obtain ⟨n1, hn1⟩ : ∃ n1, n1 = L.length := ⟨_, rfl⟩
              obtain ⟨g, off, cap, hv2, hgW, hgwr, hgA, hgB, hcap, hcx⟩ : ∃ g off cap, v = .slice (some ⟨g, off, none⟩) (n1 + 1) cap ∧ g < W.heap.size ∧ g ≠ wr.heap.size ∧ ¬ A = g ∧ g ≠ w.heap.size + 1 + 1 ∧ n1 + 1 ≤ cap ∧ W.cell? ⟨g, off, none⟩ = some (.int .i64 (x : Int)) := by
                rcases hRd.out.2 with ⟨h1, h2⟩ | ⟨g, off, cap, h1, h2, h3, h4, h5, h6⟩
                · cases h2
                · refine ⟨g, off, cap, by rw [h1, hn1]; rfl, h3, ?_, fun e => h5 e.symm, h4, by rw [hn1]; exact h2, by simpa using h6 0 x rfl⟩
                  rcases hRd.out.1 with ⟨h1', h2'⟩ | ⟨g', off', cap', h1', _, h3', _⟩
                  · cases h2'
                  · rw [h1] at h1'
                    simp only [Value.slice.injEq, Option.some.injEq, Addr.mk.injEq] at h1'
                    obtain ⟨⟨rfl, _⟩, _⟩ := h1'
                    omega
              have hRW : Hid (Rd W (w.heap.size + 1 + 1) A (.slice (some ⟨g, off, none⟩) (x :: L).length cap) (x :: L)) := by
                have := hRd.out.2
                rw [hv2, hn1] at this; exact this
              have HN : Hid (n1 = L.length) := hn1
              have HGG : Hid (g < W.heap.size ∧ g ≠ wr.heap.size ∧ g ≠ w.heap.size + 1 + 1) := ⟨hgW, hgwr, hgB⟩
              clear hn1 hRd hgW hgwr hgB
              by_cases hc1 : cap = 1
              · obtain rfl : n1 = 0 := by omega
                subst hc1
                rw [Nat.zero_add] at hv2
                clear hcap
                subst hv2
                obtain ⟨v0, st, W1, hME, hgE, hE⟩ := (HP.out.kept (grownBy_drew W)).map.entry (by unfold maxLen; omega) htz
                obtain ⟨v0a, sta, W1a, hMEa, hgEa, hEa⟩ := ((HP.out.mark (.int .i64 (x : Int))).kept (grownBy_drew _)).map.entry (by unfold maxLen; omega) htz
                have hRt : Hid (Rd W (w.heap.size + 1 + 1) A (.slice (some ⟨g, off, none⟩) 0 0) L) := by
                  have := hRW.out.tail off (Or.inr rfl)
                  rw [← HN.out] at this; exact this
                obtain ⟨W3a, W3b, W3c, ra, rb, rc, fa, fb, fc, hcells, haw, hf1, hf3⟩ := HP.out.orders hlt HRK.out HL.out hRt.out hgE hgEa hE hEa
                have FA : Hid (Ph2 w W3a (w.heap.size + 1 + 1) A R S F G (i + 1) (upd V (G i).tu.toList (.slice (some ⟨g, off, none⟩) 0 0))) := fa
                obtain ⟨k1, k2, k3, k4, k5⟩ := hcells _ _ _ hneB.out hneA tuW
                obtain ⟨m1, m2, m3, m4, m5⟩ := hcells _ _ _ HGG.out.2.2 hgA hcx
                obtain ⟨a1, a3⟩ := haw _ aW
                have ra' : (Instr.entryStore 44 (.map (some (w.heap.size + 1 + 1))) (.int .i64 (sta : Int)) (.slice (some ⟨g, off, none⟩) 0 0)).run Try.prog W1a = .ok () W3a := ra
                have rb' : (Instr.entryStore 44 (.map (some (w.heap.size + 1 + 1))) (.int .i64 (st : Int)) (.slice (some ⟨g, off, none⟩) 0 0)).run Try.prog (W1.setCell ⟨A, i, none⟩ (.int .i64 (x : Int))) = .ok () W3b := rb
                have rc' : (Instr.entryStore 44 (.map (some (w.heap.size + 1 + 1))) (.int .i64 (st : Int)) (.slice (some ⟨g, off, none⟩) 0 0)).run Try.prog W1 = .ok () W3c := rc
                have hs1 : (1 : Int) ≤ ((1 : Nat) : Int) := by omega
                have hi1 : (0 : Int) ≤ (i : Int) := by omega
                clear fa fb fc hcells haw ra rb rc hE hEa hgE hgEa
                go_upto_region 15 with fail
                go_region_held3 (fun w' => w'.cell? ⟨wr.heap.size, 5, none⟩ = some (.string (G i).tu) ∧ w'.cell? ⟨g, off, none⟩ = some (.int .i64 (x : Int))) (go_keep) (fail)
                clear ra' rb' rc' hME hMEa k1 k2 k3 k4 k5 m1 m2 m3 m4 m5 a1 a3 hf1 hf3
                go_wp2
                go_roundw
                case rel => exact ⟨i + 1, by omega, by go_num, _, FA⟩
                case measure => simp [intOf]; omega
              · subst hv2
                obtain ⟨v0, st, W1, hME, hgE, hE⟩ := (HP.out.kept (grownBy_drew W)).map.entry (by unfold maxLen; omega) htz
                obtain ⟨v0a, sta, W1a, hMEa, hgEa, hEa⟩ := ((HP.out.mark (.int .i64 (x : Int))).kept (grownBy_drew _)).map.entry (by unfold maxLen; omega) htz
                have hRt : Hid (Rd W (w.heap.size + 1 + 1) A (.slice (some ⟨g, off + 1, none⟩) n1 (cap - 1)) L) := by
                  have := hRW.out.tail (off + 1) (Or.inl rfl)
                  rw [← HN.out] at this; exact this
                obtain ⟨W3a, W3b, W3c, ra, rb, rc, fa, fb, fc, hcells, haw, hf1, hf3⟩ := HP.out.orders hlt HRK.out HL.out hRt.out hgE hgEa hE hEa
                have FA : Hid (Ph2 w W3a (w.heap.size + 1 + 1) A R S F G (i + 1) (upd V (G i).tu.toList (.slice (some ⟨g, off + 1, none⟩) n1 (cap - 1)))) := fa
                obtain ⟨k1, k2, k3, k4, k5⟩ := hcells _ _ _ hneB.out hneA tuW
                obtain ⟨m1, m2, m3, m4, m5⟩ := hcells _ _ _ HGG.out.2.2 hgA hcx
                obtain ⟨a1, a3⟩ := haw _ aW
                have ra' : (Instr.entryStore 44 (.map (some (w.heap.size + 1 + 1))) (.int .i64 (sta : Int)) (.slice (some ⟨g, off + 1, none⟩) n1 (cap - 1))).run Try.prog W1a = .ok () W3a := ra
                have rb' : (Instr.entryStore 44 (.map (some (w.heap.size + 1 + 1))) (.int .i64 (st : Int)) (.slice (some ⟨g, off + 1, none⟩) n1 (cap - 1))).run Try.prog (W1.setCell ⟨A, i, none⟩ (.int .i64 (x : Int))) = .ok () W3b := rb
                have rc' : (Instr.entryStore 44 (.map (some (w.heap.size + 1 + 1))) (.int .i64 (st : Int)) (.slice (some ⟨g, off + 1, none⟩) n1 (cap - 1))).run Try.prog W1 = .ok () W3c := rc
                have hs1 : (1 : Int) ≤ ((n1 + 1 : Nat) : Int) := by omega
                have hs2 : (1 : Int) ≤ (n1 : Int) + 1 := by omega
                have hs3 : 1 ≤ n1 + 1 := by omega
                have hi1 : (0 : Int) ≤ (i : Int) := by omega
                clear fa fb fc hcells haw ra rb rc hE hEa hgE hgEa
                go_upto_region 15 with fail
                go_region_held3 (fun w' => w'.cell? ⟨wr.heap.size, 5, none⟩ = some (.string (G i).tu) ∧ w'.cell? ⟨g, off, none⟩ = some (.int .i64 (x : Int))) (go_keep) (fail)
                clear ra' rb' rc' hME hMEa k1 k2 k3 k4 k5 m1 m2 m3 m4 m5 a1 a3 hf1 hf3
                go_wp2
                go_roundw
                case rel => exact ⟨i + 1, by omega, by go_num, _, FA⟩
                case measure => simp [intOf]; omega
          · have hr' : ((G i).ty.toList == [116, 111, 111, 108, 95, 114, 101, 115, 117, 108, 116]) = false := by simpa [isRes] using hr
            have HRK : Hid (rk G i = none) := by simp [Hid, rk, hr]
            clear hr
            go_wp2
            go_roundw
            case rel => exact ⟨i + 1, by omega, by go_num, V, HP.out.minus aW (Or.inl HRK.out)⟩
            case measure => simp [intOf]; omega
        · go_wp2
          go_ret
          obtain rfl : i = S := by omega
          exact ⟨A, rfl, hP.out.old.1, hP.out.lt, hP.out.done, hP.out.below⟩
end Go.Proofs.Qxb6629352a
