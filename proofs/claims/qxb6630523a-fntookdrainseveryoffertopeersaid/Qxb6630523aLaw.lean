/-
  Seat b6630523a. THE WALK of the law FnTookDrainsEveryOfferToPeer (3).
-/
import Derived.Test.Qxb6630523aIs
namespace Go.Proofs.Qxb6630523a
open Go.RowKit
attribute [local go_sem ↓] Go.wp_at_zero Go.wp_at_succ

theorem Row.src {w : World} {ad : Addr} {n : Nat} {V : Nat → Value} (h : Row w (some ad) n V) : ∀ i, i < n → w.cell? (ad.add i) = some (V i) := fun i hi => by
  obtain ⟨b, off, e, _, hc⟩ := h (by omega)
  obtain rfl : ad = ⟨b, off, none⟩ := by injection e
  rw [Addr.add_mid]
  exact hc i hi

/-- THE COPY into a row just made: it holds the source's values; nothing else turns. -/
theorem wpList_copy_fill {P : Program} {w : World} {ops : Array Oper} {rest : List Oper} {o : Oper} {a : Act} {Q : Exit → Act → World → Prop} (hgd : o.guard = none) (d s : Operand) (dT sT : TypeId)
    (ho : o.op = .call { callee := .builtin .copy, args := #[d, s], argTypes := #[dT, sT] }) (elem : TypeId) (hu : P.underlying dT = some (.slice elem)) (hsz : (P.info? elem).map (·.size) = some 1)
    (base g n : Nat) (ad : Addr) (sCap : Nat) (xs : List Value) (hd : a.eval d = .slice (some ⟨g, 0, none⟩) n n) (hs : a.eval s = .slice (some ad) n sCap)
    (hown : w.ownsRow base elem 1 (.slice (some ⟨g, 0, none⟩) n n) n xs) (V : Nat → Value) (hsrc : ∀ i, i < n → w.cell? (ad.add i) = some (V i)) (h1 : ∀ i, (V i).oneCell' = true)
    (h : ∀ r w', Below g w w' → Row w' (some ⟨g, 0, none⟩) n V → wpList P ops Q rest (a.put o.dst (goInt r)) w') : wpList P ops Q (o :: rest) a w := by
  rcases hown.2 with ⟨h0, _⟩ | ⟨g', cap, cur, hv, _, hg, _, _, hcs, _⟩
  · cases h0
  · simp only [Value.slice.injEq, Option.some.injEq, Addr.mk.injEq] at hv
    obtain ⟨⟨rfl, _⟩, _, rfl⟩ := hv
    have hlt : g < w.heap.size := by
      rcases Nat.lt_or_ge g w.heap.size with h | h
      · exact h
      · rw [Array.getElem?_eq_none h] at hg; cases hg
    refine wpList_copy_own hgd d s dT sT ho elem hu hsz g 0 n n ad n sCap hd hs cur elem hg ((List.range n).map V) (by simp) (fun j v hv => ?_) (by simp; omega) (fun v hv => ?_) (h _ _ (below_setRow (Below.refl _ _) (Nat.le_refl _) _) (fun hn => ⟨g, 0, rfl, by simp [World.setRow]; exact hlt, fun i hi => ?_⟩))
    · obtain ⟨hj, hv'⟩ := List.getElem?_eq_some_iff.1 hv
      simp at hj hv'
      rw [← hv']
      exact hsrc j hj
    · obtain ⟨i, _, rfl⟩ := List.mem_map.1 hv
      exact h1 i
    · have hrow := setRow_heap w g cur (((cur.toList.take 0) ++ ((List.range n).map V ++ cur.toList.drop (0 + ((List.range n).map V).length))).toArray) elem (0, 0) hg
      rw [cell_of_row _ g (0 + i) _ elem (0, 0) hrow]
      simp [List.getElem?_append, hi]

/-- What is known of the four rows. -/
structure Giv (w : World) (a0 a1 a2 a3 : Option Addr) (n0 n1 n2 n3 : Nat) (rt : Nat → Bool) (P pe : Nat → Int) (ag : Nat → Bool) : Prop where
  r0 : Row w a0 n0 (fun i => .bool (rt i))
  r1 : Row w a1 n1 (fun i => .int .u8 (P i))
  r2 : Row w a2 n2 (fun i => .int .i64 (pe i))
  r3 : Row w a3 n3 (fun i => .bool (ag i))

theorem Giv.below {w w' : World} {a0 a1 a2 a3 : Option Addr} {n0 n1 n2 n3 : Nat} {rt : Nat → Bool} {P pe : Nat → Int} {ag : Nat → Bool} (h : Giv w a0 a1 a2 a3 n0 n1 n2 n3 rt P pe ag) (hb : Below w.heap.size w w') : Giv w' a0 a1 a2 a3 n0 n1 n2 n3 rt P pe ag :=
  ⟨h.r0.below hb, h.r1.below hb, h.r2.below hb, h.r3.below hb⟩

def hitF (P pe : Nat → Int) (i : Int) : Nat → Bool := fun k => decide (P k = 1) && decide (pe k = i)
def ansF (rt : Nat → Bool) : Nat → Int := fun k => if rt k then 2 else 3
def wantV (P pe : Nat → Int) (i : Int) (rt : Nat → Bool) : Nat → Value := fun k => .int .u8 (Pl.want (hitF P pe i) (ansF rt) P k)

def LawP (w : World) (e : Ending) (w' : World) : Prop := e = .returned (.bool true) ∧ Below w.heap.size w w'

set_option maxRecDepth 10000 in
set_option maxHeartbeats 2000000 in
theorem law_any (a0 a1 a2 a3 a4 : Option Addr) (n0 n1 n2 n3 m k0 k1 k2 k3 k4 : Nat) (delay start last i : Int) (rt ag : Nat → Bool) (P pe of : Nat → Int) (w : World)
    (hG : Giv w a0 a1 a2 a3 n0 n1 n2 n3 rt P pe ag) (h4 : Row w a4 m (fun k => .int .i64 (of k))) :
    Calls Try.prog 3 #[.slice a0 n0 k0, .slice a1 n1 k1, .slice a2 n2 k2, .slice a3 n3 k3, .slice a4 m k4, .int .i64 delay, .int .i64 start, .int .i64 last, .int .i64 i] w (LawP w) := by
  have HG : Hid (Giv w a0 a1 a2 a3 n0 n1 n2 n3 rt P pe ag ∧ Row w a4 m (fun k => .int .i64 (of k)) ∧ Below w.heap.size w w) := ⟨hG, h4, Below.refl _ _⟩
  clear hG h4
  obtain ⟨i3, hi, hz0, hz1, hz2⟩ := info_parts Try.info3
  have HI3 : Hid (Try.prog.info? 3 = some i3 ∧ i3.zero = some (.int .i64 0) ∧ i3.size = 1 ∧ i3.bytes = 8 ∧ (Try.prog.info? 3).map (·.size) = some 1) := ⟨hi, hz0, hz1, hz2, by rw [hi]; simp [hz1]⟩
  clear hi hz0 hz1 hz2
  obtain ⟨i4, hi, hz0, hz1, hz2⟩ := info_parts Try.info4
  have HI4 : Hid (Try.prog.info? 4 = some i4 ∧ i4.zero = some (.bool false) ∧ i4.size = 1 ∧ i4.bytes = 1 ∧ (Try.prog.info? 4).map (·.size) = some 1) := ⟨hi, hz0, hz1, hz2, by rw [hi]; simp [hz1]⟩
  clear hi hz0 hz1 hz2
  obtain ⟨i5, hi, hz0, hz1, hz2⟩ := info_parts Try.info5
  have HI5 : Hid (Try.prog.info? 5 = some i5 ∧ i5.zero = some (.int .u8 0) ∧ i5.size = 1 ∧ i5.bytes = 1 ∧ (Try.prog.info? 5).map (·.size) = some 1) := ⟨hi, hz0, hz1, hz2, by rw [hi]; simp [hz1]⟩
  clear hi hz0 hz1 hz2
  have hn22 := fun (wx : World) (a : Option Addr) (l c : Nat) => run_neq_slice_nil_any (P := Try.prog) wx 22 4 a l c 0 0 Try.underlying22
  have hn23 := fun (wx : World) (a : Option Addr) (l c : Nat) => run_neq_slice_nil_any (P := Try.prog) wx 23 5 a l c 0 0 Try.underlying23
  have hn24 := fun (wx : World) (a : Option Addr) (l c : Nat) => run_neq_slice_nil_any (P := Try.prog) wx 24 3 a l c 0 0 Try.underlying24
  go_enter Try.func3, Try.ntmps3
  go_wp2_with fail
  refine (bytes_any a0 a1 a2 a3 a4 n0 n1 n2 n3 m k0 k1 k2 k3 k4 delay start last i w).mono ?_
  rintro e w' ⟨v, rfl, rfl⟩
  cases v
  · go_wp2
    go_ret
    exact ⟨rfl, Below.refl _ _⟩
  by_cases t0 : 4096 < n0
  · go_wp2
    go_ret
    exact ⟨rfl, Below.refl _ _⟩
  by_cases t1 : 4096 < n1
  · go_wp2
    go_ret
    exact ⟨rfl, Below.refl _ _⟩
  by_cases t2 : 4096 < n2
  · go_wp2
    go_ret
    exact ⟨rfl, Below.refl _ _⟩
  by_cases t3 : 4096 < n3
  · go_wp2
    go_ret
    exact ⟨rfl, Below.refl _ _⟩
  by_cases t4 : 65536 < m
  · go_wp2
    go_ret
    exact ⟨rfl, Below.refl _ _⟩
  go_upto_if 64 with fail
  go_cut [0] (fun v wc => ∃ a k, v = .slice a n0 k ∧ Hid (Giv wc a a1 a2 a3 n0 n1 n2 n3 rt P pe ag ∧ Row wc a4 m (fun k => .int .i64 (of k)) ∧ Below w.heap.size w wc))
  case first =>
    cases a0 with
    | none =>
      go_wp2
      go_meet
      case rel => exact ⟨none, k0, rfl, HG⟩
    | some ad =>
      go_wp2_with (first
        | (at_make; refine wpList_make_full _ rfl (.tmp 66) (.tmp 66) 22 rfl w.heap.size 4 i4 _ 1 Try.underlying22 HI4.out.1 HI4.out.2.1 HI4.out.2.2.1 .i64 .i64 n0 n0 n0 rfl rfl rfl rfl (by rw [HI4.out.2.2.2.1]; omega) (by unfold maxLen; omega) (Nat.le_refl _) ?_; intro w1 hown hgr; have HB1 : Hid (Below w.heap.size w w1) := (Below.refl _ _).grown hgr (Nat.le_refl _) (by simp); have HO := hown; clear hgr)
        | (refine wpList_copy_fill rfl (.tmp 68) (.tmp 69) 22 22 rfl 4 Try.underlying22 HI4.out.2.2.2.2 w.heap.size w.heap.size n0 ad k0 _ rfl rfl HO (fun i => .bool (rt i)) ((HG.out.1.below HB1.out).r0.src) (fun _ => rfl) ?_; intro rr w2 hb2 hr2))
      go_meet
      case rel =>
        have hb := HB1.out.trans hb2
        have := HG.out.1.below hb
        exact ⟨_, _, rfl, ⟨hr2, this.r1, this.r2, this.r3⟩, HG.out.2.1.below hb, hb⟩
  case rest =>
    clear HG
    obtain ⟨A0, K0, rfl, HG⟩ := hcut
    obtain ⟨wA, hwn⟩ : ∃ x, x = wc := ⟨_, rfl⟩
    subst hwn
    go_upto_if 73 with fail
    go_cut [1] (fun v wc => ∃ a k, v = .slice a n1 k ∧ Hid (Giv wc A0 a a2 a3 n0 n1 n2 n3 rt P pe ag ∧ Row wc a4 m (fun k => .int .i64 (of k)) ∧ Below w.heap.size w wc))
    case first =>
      cases a1 with
      | none =>
        go_wp2
        go_meet
        case rel => exact ⟨none, k1, rfl, HG⟩
      | some ad =>
        go_wp2_with (first
          | (at_make; refine wpList_make_full _ rfl (.tmp 75) (.tmp 75) 23 rfl wA.heap.size 5 i5 _ 1 Try.underlying23 HI5.out.1 HI5.out.2.1 HI5.out.2.2.1 .i64 .i64 n1 n1 n1 rfl rfl rfl rfl (by rw [HI5.out.2.2.2.1]; omega) (by unfold maxLen; omega) (Nat.le_refl _) ?_; intro w1 hown hgr; have HB1 : Hid (Below wA.heap.size wA w1) := (Below.refl _ _).grown hgr (Nat.le_refl _) (by simp); have HO := hown; clear hgr)
          | (refine wpList_copy_fill rfl (.tmp 77) (.tmp 78) 23 23 rfl 5 Try.underlying23 HI5.out.2.2.2.2 wA.heap.size wA.heap.size n1 ad k1 _ rfl rfl HO (fun i => .int .u8 (P i)) ((HG.out.1.below HB1.out).r1.src) (fun _ => rfl) ?_; intro rr w2 hb2 hr2))
        go_meet
        case rel =>
          have hb := HB1.out.trans hb2
          have hg := HG.out.1.below hb
          exact ⟨_, _, rfl, ⟨hg.r0, hr2, hg.r2, hg.r3⟩, HG.out.2.1.below hb, HG.out.2.2.trans (hb.mono HG.out.2.2.size)⟩
    case rest =>
      clear HG
      obtain ⟨A1, K1, rfl, HG⟩ := hcut
      obtain ⟨wB, hwn⟩ : ∃ x, x = wc := ⟨_, rfl⟩
      subst hwn
      go_upto_if 82 with fail
      go_cut [2] (fun v wc => ∃ a k, v = .slice a n2 k ∧ Hid (Giv wc A0 A1 a a3 n0 n1 n2 n3 rt P pe ag ∧ Row wc a4 m (fun k => .int .i64 (of k)) ∧ Below w.heap.size w wc))
      case first =>
        cases a2 with
        | none =>
          go_wp2
          go_meet
          case rel => exact ⟨none, k2, rfl, HG⟩
        | some ad =>
          go_wp2_with (first
            | (at_make; refine wpList_make_full _ rfl (.tmp 84) (.tmp 84) 24 rfl wB.heap.size 3 i3 _ 1 Try.underlying24 HI3.out.1 HI3.out.2.1 HI3.out.2.2.1 .i64 .i64 n2 n2 n2 rfl rfl rfl rfl (by rw [HI3.out.2.2.2.1]; omega) (by unfold maxLen; omega) (Nat.le_refl _) ?_; intro w1 hown hgr; have HB1 : Hid (Below wB.heap.size wB w1) := (Below.refl _ _).grown hgr (Nat.le_refl _) (by simp); have HO := hown; clear hgr)
            | (refine wpList_copy_fill rfl (.tmp 86) (.tmp 87) 24 24 rfl 3 Try.underlying24 HI3.out.2.2.2.2 wB.heap.size wB.heap.size n2 ad k2 _ rfl rfl HO (fun i => .int .i64 (pe i)) ((HG.out.1.below HB1.out).r2.src) (fun _ => rfl) ?_; intro rr w2 hb2 hr2))
          go_meet
          case rel =>
            have hb := HB1.out.trans hb2
            have hg := HG.out.1.below hb
            exact ⟨_, _, rfl, ⟨hg.r0, hg.r1, hr2, hg.r3⟩, HG.out.2.1.below hb, HG.out.2.2.trans (hb.mono HG.out.2.2.size)⟩
      case rest =>
        clear HG
        obtain ⟨A2, K2, rfl, HG⟩ := hcut
        obtain ⟨wC, hwn⟩ : ∃ x, x = wc := ⟨_, rfl⟩
        subst hwn
        go_upto_if 91 with fail
        go_cut [3] (fun v wc => ∃ a k, v = .slice a n3 k ∧ Hid (Giv wc A0 A1 A2 a n0 n1 n2 n3 rt P pe ag ∧ Row wc a4 m (fun k => .int .i64 (of k)) ∧ Below w.heap.size w wc))
        case first =>
          cases a3 with
          | none =>
            go_wp2
            go_meet
            case rel => exact ⟨none, k3, rfl, HG⟩
          | some ad =>
            go_wp2_with (first
              | (at_make; refine wpList_make_full _ rfl (.tmp 93) (.tmp 93) 22 rfl wC.heap.size 4 i4 _ 1 Try.underlying22 HI4.out.1 HI4.out.2.1 HI4.out.2.2.1 .i64 .i64 n3 n3 n3 rfl rfl rfl rfl (by rw [HI4.out.2.2.2.1]; omega) (by unfold maxLen; omega) (Nat.le_refl _) ?_; intro w1 hown hgr; have HB1 : Hid (Below wC.heap.size wC w1) := (Below.refl _ _).grown hgr (Nat.le_refl _) (by simp); have HO := hown; clear hgr)
              | (refine wpList_copy_fill rfl (.tmp 95) (.tmp 96) 22 22 rfl 4 Try.underlying22 HI4.out.2.2.2.2 wC.heap.size wC.heap.size n3 ad k3 _ rfl rfl HO (fun i => .bool (ag i)) ((HG.out.1.below HB1.out).r3.src) (fun _ => rfl) ?_; intro rr w2 hb2 hr2))
            go_meet
            case rel =>
              have hb := HB1.out.trans hb2
              have hg := HG.out.1.below hb
              exact ⟨_, _, rfl, ⟨hg.r0, hg.r1, hg.r2, hr2⟩, HG.out.2.1.below hb, HG.out.2.2.trans (hb.mono HG.out.2.2.size)⟩
        case rest =>
          clear HG
          obtain ⟨A3, K3, rfl, HG⟩ := hcut
          obtain ⟨wD, hwn⟩ : ∃ x, x = wc := ⟨_, rfl⟩
          subst hwn
          clear hn22 hn23 hn24
          by_cases e1 : n0 = n1
          case neg =>
            have hq : ((n1 : Int) != (n0 : Int)) = true := by rw [bne_iff_ne]; omega
            go_wp2
            go_ret
            exact ⟨rfl, HG.out.2.2⟩
          subst e1
          by_cases e2 : n0 = n2
          case neg =>
            have hnn : ((n0 : Int) != (n0 : Int)) = false := by simp
            have hq : ((n2 : Int) != (n0 : Int)) = true := by rw [bne_iff_ne]; omega
            go_wp2
            go_ret
            exact ⟨rfl, HG.out.2.2⟩
          subst e2
          by_cases e3 : n0 = n3
          case neg =>
            have hnn : ((n0 : Int) != (n0 : Int)) = false := by simp
            have hq : ((n3 : Int) != (n0 : Int)) = true := by rw [bne_iff_ne]; omega
            go_wp2
            go_ret
            exact ⟨rfl, HG.out.2.2⟩
          subst e3
          have hnn : ((n0 : Int) != (n0 : Int)) = false := by simp
          clear t1 t2 t3
          go_wp2_with fail
          refine (clone_any a4 m k4 of _ (by omega) HG.out.2.1).mono ?_
          rintro e w1 ⟨A4, K4, rfl, hr4, hl4, hb4⟩
          have HG1 : Hid (Giv w1 A0 A1 A2 A3 n0 n0 n0 n0 rt P pe ag ∧ Row w1 A4 m (fun k => .int .i64 (of k)) ∧ Below w.heap.size w w1) := ⟨HG.out.1.below hb4, hr4, HG.out.2.2.trans (hb4.mono HG.out.2.2.size)⟩
          clear HG hr4 hl4 hb4 hnn
          go_wp2_with (at_make; refine wpList_make_full _ rfl (.tmp 119) (.tmp 119) 23 rfl w1.heap.size 5 i5 _ 1 Try.underlying23 HI5.out.1 HI5.out.2.1 HI5.out.2.2.1 .i64 .i64 n0 n0 n0 rfl rfl rfl rfl (by rw [HI5.out.2.2.2.1]; omega) (by unfold maxLen; omega) (Nat.le_refl _) ?_; intro w2 hown hgr)
          have H0 : Hid (Fill w1 w2 w1.heap.size n0 0 (wantV P pe i rt)) := Fill.start hown hgr
          clear hown hgr
          go_loopw [25, 26] (fun c v wr => ∃ k : Nat, k ≤ n0 ∧ v = .int .i64 k ∧ c = .int .i64 (Pl.cnt (hitF P pe i) k : Nat) ∧ Hid (Fill w1 wr w1.heap.size n0 k (wantV P pe i rt))) (fun _ v _ => n0 - (intOf v).toNat)
          case atStart => exact ⟨0, Nat.zero_le _, rfl, rfl, H0⟩
          case round =>
            clear H0 w2
            obtain ⟨k, hk, rfl, rfl, hF⟩ := hrel
            by_cases hlt : k < n0
            · have hlt' : (k : Int) < (n0 : Int) := by omega
              have hk1 : (0 : Int) ≤ (k : Int) := by omega
              obtain ⟨b0, o0, rfl, l0, c0⟩ := HG1.out.1.r0 (by omega)
              obtain ⟨b1, o1, rfl, l1, c1⟩ := HG1.out.1.r1 (by omega)
              obtain ⟨b2, o2, rfl, l2, c2⟩ := HG1.out.1.r2 (by omega)
              have d0 : wr.cell? ⟨b0, o0 + k, none⟩ = some (.bool (rt k)) := (hF.out.below.cell l0).trans (c0 k hlt)
              have d1 : wr.cell? ⟨b1, o1 + k, none⟩ = some (.int .u8 (P k)) := (hF.out.below.cell l1).trans (c1 k hlt)
              have d2 : wr.cell? ⟨b2, o2 + k, none⟩ = some (.int .i64 (pe k)) := (hF.out.below.cell l2).trans (c2 k hlt)
              have hob0 : ∀ (W : World) (o o' : Nat) (v : Value), (W.setCell ⟨w1.heap.size, o', none⟩ v).cell? ⟨b0, o, none⟩ = W.cell? ⟨b0, o, none⟩ := fun W o o' v => World.cell?_setCell_other _ _ _ _ (fun e => by injection e with e1; omega)
              have hob1 : ∀ (W : World) (o o' : Nat) (v : Value), (W.setCell ⟨w1.heap.size, o', none⟩ v).cell? ⟨b1, o, none⟩ = W.cell? ⟨b1, o, none⟩ := fun W o o' v => World.cell?_setCell_other _ _ _ _ (fun e => by injection e with e1; omega)
              have hob2 : ∀ (W : World) (o o' : Nat) (v : Value), (W.setCell ⟨w1.heap.size, o', none⟩ v).cell? ⟨b2, o, none⟩ = W.cell? ⟨b2, o, none⟩ := fun W o o' v => World.cell?_setCell_other _ _ _ _ (fun e => by injection e with e1; omega)
              obtain ⟨u, hu⟩ := Option.isSome_iff_exists.1 (hF.out.there k hlt).1
              have hfr := (hF.out.there k hlt).2
              rw [Nat.zero_add] at hu hfr
              clear c0 c1 c2 l0 l1 l2
              have HC : Hid (Pl.cnt (hitF P pe i) k ≤ k) := Pl.cnt_le _ _
              obtain ⟨cn, hcn⟩ : ∃ cn, cn = Pl.cnt (hitF P pe i) k := ⟨_, rfl⟩
              rw [← hcn] at HC
              rw [← hcn]
              have HCN : Hid (cn = Pl.cnt (hitF P pe i) k) := hcn
              clear hcn
              have hcb := HC.out
              obtain ⟨q, hq⟩ : ∃ q, q = P k := ⟨_, rfl⟩
              obtain ⟨r, hr⟩ : ∃ r, r = pe k := ⟨_, rfl⟩
              obtain ⟨f, hf⟩ : ∃ f, f = rt k := ⟨_, rfl⟩
              rw [← hq] at d1
              rw [← hr] at d2
              rw [← hf] at d0
              have Hq : Hid (q = P k) := hq
              have Hr : Hid (r = pe k) := hr
              have Hf : Hid (f = rt k) := hf
              clear hq hr hf
              by_cases h1 : q = 1
              · subst h1
                by_cases h2 : i = r
                · subst h2
                  have hhit : hitF P pe i k = true := by simp [hitF, ← Hq.out, ← Hr.out]
                  have HK : Hid (cn + 1 = Pl.cnt (hitF P pe i) (k + 1)) := by rw [Pl.cnt_hit hhit, ← HCN.out]; trivial
                  cases f
                  · have hfin : Hid (Fill w1 ((wr.setCell ⟨w1.heap.size, k, none⟩ (.int .u8 1)).setCell ⟨w1.heap.size, k, none⟩ (.int .u8 3)) w1.heap.size n0 (k + 1) (wantV P pe i rt)) := by
                      have := (hF.out.store0 (.int .u8 1)).store hlt
                      rwa [show wantV P pe i rt k = .int .u8 3 by simp [wantV, Pl.want, hhit, ansF, ← Hf.out]] at this
                    clear hhit
                    go_wp2
                    go_roundw
                    case rel => exact ⟨k + 1, by omega, by go_num, by rw [← HK.out]; rfl, hfin⟩
                    case measure => simp [intOf]; omega
                  · have hfin : Hid (Fill w1 ((wr.setCell ⟨w1.heap.size, k, none⟩ (.int .u8 1)).setCell ⟨w1.heap.size, k, none⟩ (.int .u8 2)) w1.heap.size n0 (k + 1) (wantV P pe i rt)) := by
                      have := (hF.out.store0 (.int .u8 1)).store hlt
                      rwa [show wantV P pe i rt k = .int .u8 2 by simp [wantV, Pl.want, hhit, ansF, ← Hf.out]] at this
                    clear hhit
                    go_wp2
                    go_roundw
                    case rel => exact ⟨k + 1, by omega, by go_num, by rw [← HK.out]; rfl, hfin⟩
                    case measure => simp [intOf]; omega
                · have hhit : hitF P pe i k = false := by
                    have := Hr.out
                    simp [hitF]; intro _ h; exact h2 (by rw [this, h])
                  have HK : Hid (cn = Pl.cnt (hitF P pe i) (k + 1)) := by rw [Pl.cnt_miss hhit, ← HCN.out]; trivial
                  have hfin : Hid (Fill w1 (wr.setCell ⟨w1.heap.size, k, none⟩ (.int .u8 1)) w1.heap.size n0 (k + 1) (wantV P pe i rt)) := by
                    have := hF.out.store hlt
                    rwa [show wantV P pe i rt k = .int .u8 1 by simp [wantV, Pl.want, hhit, ← Hq.out]] at this
                  clear hhit
                  have h2' : ¬ r = i := fun h => h2 h.symm
                  clear h2
                  go_wp2
                  go_roundw
                  case rel => exact ⟨k + 1, by omega, by go_num, by rw [← HK.out], hfin⟩
                  case measure => simp [intOf]; omega
              · have hhit : hitF P pe i k = false := by
                  have := Hq.out
                  simp [hitF]; intro h; exact absurd (by rw [this, h]) h1
                have HK : Hid (cn = Pl.cnt (hitF P pe i) (k + 1)) := by rw [Pl.cnt_miss hhit, ← HCN.out]; trivial
                have hfin : Hid (Fill w1 (wr.setCell ⟨w1.heap.size, k, none⟩ (.int .u8 q)) w1.heap.size n0 (k + 1) (wantV P pe i rt)) := by
                  have := hF.out.store hlt
                  rwa [show wantV P pe i rt k = .int .u8 q by simp [wantV, Pl.want, hhit, ← Hq.out]] at this
                clear hhit
                go_wp2
                go_roundw
                case rel => exact ⟨k + 1, by omega, by go_num, by rw [← HK.out], hfin⟩
                case measure => simp [intOf]; omega
            · obtain rfl : k = n0 := by omega
              have HC : Hid (Pl.cnt (hitF P pe i) k ≤ k) := Pl.cnt_le _ _
              obtain ⟨cn, hcn⟩ : ∃ cn, cn = Pl.cnt (hitF P pe i) k := ⟨_, rfl⟩
              rw [← hcn] at HC
              rw [← hcn]
              have HCN : Hid (cn = Pl.cnt (hitF P pe i) k) := hcn
              clear hcn
              have hcb := HC.out
              have HG2 : Hid (Giv wr A0 A1 A2 A3 k k k k rt P pe ag ∧ Row wr A4 m (fun k => .int .i64 (of k)) ∧ Row wr (some ⟨w1.heap.size, 0, none⟩) k (wantV P pe i rt) ∧ Below w.heap.size w wr) := ⟨HG1.out.1.below hF.out.below, HG1.out.2.1.below hF.out.below, hF.out.row, HG1.out.2.2.trans (hF.out.below.mono HG1.out.2.2.size)⟩
              clear HG1 hF
              obtain ⟨wm, hwm⟩ : ∃ x, x = wr := ⟨_, rfl⟩
              subst hwm
              go_wp2_with fail
              refine (clone_any A4 m K4 of _ (by omega) HG2.out.2.1).mono ?_
              rintro e w3 ⟨A5, K5, rfl, hr5, hl5, hb5⟩
              have HG3 : Hid (Giv w3 A0 A1 A2 A3 k k k k rt P pe ag ∧ Row w3 A4 m (fun k => .int .i64 (of k)) ∧ Row w3 (some ⟨w1.heap.size, 0, none⟩) k (wantV P pe i rt) ∧ Below w.heap.size w w3 ∧ Row w3 A5 m (fun k => .int .i64 (of k)) ∧ ∀ b o, A5 = some ⟨b, o, none⟩ → b < w3.heap.size) := ⟨HG2.out.1.below hb5, HG2.out.2.1.below hb5, HG2.out.2.2.1.below hb5, HG2.out.2.2.2.trans (hb5.mono HG2.out.2.2.2.size), hr5, fun b o e => (hl5 b o e).2⟩
              clear HG2 hr5 hl5 hb5
              go_wp2_with fail
              refine (new_any A0 A1 A2 A3 K0 K1 K2 K3 k A5 m K5 delay start last rt ag P pe of _ (by omega) HG3.out.1.r0 HG3.out.1.r1 HG3.out.1.r2 HG3.out.1.r3 HG3.out.2.2.2.2.1 HG3.out.2.2.2.2.2).mono ?_
              rintro e w5 ⟨p, g1, g2, rfl, hg2, hsp, hb6⟩
              have HS : Hid (w3.heap.size ≤ g2 ∧ Sp w5 p g1 g2 k A5 m K5 delay start last rt ag P pe of ∧ Below w3.heap.size w3 w5) := ⟨hg2, hsp, hb6⟩
              clear hg2 hsp hb6
              go_wp2_with fail
              go_loopw [28] (fun v wr => ∃ t : Nat, t ≤ cn ∧ v = .int .i64 t ∧ Hid (Sp wr p g1 g2 k A5 m K5 delay start last rt ag (Pl.ph (hitF P pe i) (ansF rt) P t) pe of ∧ Below w3.heap.size w3 wr)) (fun v _ => cn - (intOf v).toNat)
              case atStart => exact ⟨0, Nat.zero_le _, rfl, HS.out.2.1.of_eq (fun j _ => Pl.ph_zero _ _ _ _), HS.out.2.2⟩
              case round =>
                obtain ⟨t, ht, rfl, hS⟩ := hrel
                by_cases hlt2 : t < cn
                · have hlt' : (t : Int) < (cn : Int) := by omega
                  go_wp2_with fail
                  refine (took_any (p0 := P) i t (by omega) hS.out.1).mono ?_
                  rintro e w6 ⟨rfl, hs6, hb6⟩
                  have H6 : Hid (Sp w6 p g1 g2 k A5 m K5 delay start last rt ag (Pl.ph (hitF P pe i) (ansF rt) P (t + 1)) pe of ∧ Below w3.heap.size w3 w6) := ⟨hs6, hS.out.2.trans (hb6.mono HS.out.1)⟩
                  clear hs6 hb6
                  go_wp2
                  go_roundw
                  case rel => exact ⟨t + 1, by omega, by go_num, H6⟩
                  case measure => simp [intOf]; omega
                · obtain rfl : t = cn := by omega
                  have hW : Hid (∀ s, t ≤ s → ∀ j, j < k → Pl.want (hitF P pe i) (ansF rt) P j = Pl.ph (hitF P pe i) (ansF rt) P s j) := fun s hs j hj => (Pl.ph_want (by rw [← HCN.out]; exact hs) j hj).symm
                  have hsz := hS.out.2.size
                  go_wp2_with fail
                  refine (is_any (hS.out.1.of_eq (hW.out t (Nat.le_refl _))) A0 (some ⟨w1.heap.size, 0, none⟩) A2 A3 A4 K0 k K2 K3 K4 (by omega) (by omega) (HG3.out.1.below hS.out.2).r0 (HG3.out.2.2.1.below hS.out.2) (HG3.out.1.below hS.out.2).r2 (HG3.out.1.below hS.out.2).r3 (HG3.out.2.1.below hS.out.2)).mono ?_
                  rintro e w6 ⟨rfl, hb6⟩
                  have H6 : Hid (Sp w6 p g1 g2 k A5 m K5 delay start last rt ag (Pl.ph (hitF P pe i) (ansF rt) P t) pe of ∧ Below w3.heap.size w3 w6) := ⟨hS.out.1.kept (grown_of_below hb6), hS.out.2.trans (hb6.mono hS.out.2.size)⟩
                  clear hb6 hS hsz
                  go_wp2_with fail
                  refine (took_any (p0 := P) i t (by omega) H6.out.1).mono ?_
                  rintro e w7 ⟨rfl, hs7, hb7⟩
                  have H7 : Hid (Sp w7 p g1 g2 k A5 m K5 delay start last rt ag (Pl.ph (hitF P pe i) (ansF rt) P (t + 1)) pe of ∧ Below w3.heap.size w3 w7) := ⟨hs7, H6.out.2.trans (hb7.mono HS.out.1)⟩
                  clear hs7 hb7 H6
                  go_wp2_with fail
                  refine (is_any (H7.out.1.of_eq (hW.out (t + 1) (by omega))) A0 (some ⟨w1.heap.size, 0, none⟩) A2 A3 A4 K0 k K2 K3 K4 (by omega) (by omega) (HG3.out.1.below H7.out.2).r0 (HG3.out.2.2.1.below H7.out.2) (HG3.out.1.below H7.out.2).r2 (HG3.out.1.below H7.out.2).r3 (HG3.out.2.1.below H7.out.2)).mono ?_
                  rintro e w8 ⟨rfl, hb8⟩
                  have H8 : Hid (Below w.heap.size w w8) := HG3.out.2.2.2.1.trans ((H7.out.2.trans (hb8.mono H7.out.2.size)).mono HG3.out.2.2.2.1.size)
                  clear hb8
                  go_wp2
                  go_ret
                  exact ⟨rfl, H8.out⟩
end Go.Proofs.Qxb6630523a
