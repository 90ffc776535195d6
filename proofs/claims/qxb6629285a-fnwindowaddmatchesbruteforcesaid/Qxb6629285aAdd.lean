/-
  Seat b6629285a. THE WALKS of (*Window).Add (6), (*Window).beats (9) and the two length guards (5, 8).
-/
import Derived.Test.Qxb6629285aRows
import Derived.Test.Qxb6629285aPlain
import Derived.Test.Qxb6629285aLaw
import Derived.WalkKit
import Derived.WalkSpells
import Derived.WalkLawsBesides
import Derived.Deep.QuietTactic
import Derived.BigQuiet
import Derived.Deep.CutBlock
import Derived.Deep.DeepCutAuto
namespace Go.Proofs.Qxb6629285a
open Go.RowKit

theorem Try.info35 : (Try.prog.info? 35).map (fun i => (i.zero, i.size, i.bytes)) = some (some (.agg #[.int .i64 0, .int .i64 0]), 2, 16) := by kernel_rfl

set_option maxHeartbeats 400000 in
theorem beats_any (B : Nat) (lg : Bool) (x y : Int) (w : World) (h1 : w.cell? ⟨B, 1, none⟩ = some (.bool lg)) (r : Bool) (hr : r = true ↔ Pl.Beats lg x y) :
    Calls Try.prog 9 #[.pointer (some ⟨B, 0, none⟩), .int .i64 x, .int .i64 y] w fun e w' => e = .returned (.bool r) ∧ w' = w := by
  cases lg
  · have er : decide (x < y) = r := by
      rw [Bool.eq_iff_iff, hr]; simp [Pl.Beats]
    have H : Hid (decide (x < y) = r) := er
    clear er hr
    go_enter Try.func9, Try.ntmps9
    go_wp2
    go_ret
    exact ⟨by rw [← H.out]; rfl, rfl⟩
  · have er : decide (y < x) = r := by
      rw [Bool.eq_iff_iff, hr]; simp [Pl.Beats]
    have H : Hid (decide (y < x) = r) := er
    clear er hr
    go_enter Try.func9, Try.ntmps9
    go_wp2
    go_ret
    exact ⟨by rw [← H.out]; rfl, rfl⟩

/-- Behind 'w.recs = w.recs[gone:]'. -/
structure Mid (w wr : World) (B b off n cap : Nat) (len : Int) (lg : Bool) (T C : Nat → Int) : Prop where
  c0 : wr.cell? ⟨B, 0, none⟩ = some (.int .i64 len)
  c1 : wr.cell? ⟨B, 1, none⟩ = some (.bool lg)
  c2 : wr.cell? ⟨B, 2, none⟩ = some (.slice (some ⟨b, off, none⟩) n cap)
  f2 : wr.frozen? ⟨B, 2, none⟩ = false
  t : ∀ i, i < n → wr.cell? ⟨b, off + i * 2, none⟩ = some (.int .i64 (T i))
  c : ∀ i, i < n → wr.cell? ⟨b, off + i * 2 + 1, none⟩ = some (.int .i64 (C i))
  th : wr.there b off (cap * 2)
  le : n ≤ cap
  size : wr.heap.size = w.heap.size
  kept : Kept w wr B (some b)

theorem Mid.of {B b off n cap : Nat} {len : Int} {lg : Bool} {T C : Nat → Int} {w : World} {k : Nat} (q : Nat)
    (h0 : w.cell? ⟨B, 0, none⟩ = some (.int .i64 len)) (h1 : w.cell? ⟨B, 1, none⟩ = some (.bool lg)) (h2 : w.cell? ⟨B, 2, none⟩ = some (.slice (some ⟨b, off, none⟩) n cap))
    (f2 : w.frozen? ⟨B, 2, none⟩ = false) (hBb : ¬ b = B)
    (hT : ∀ i, i < n → w.cell? ⟨b, off + i * 2, none⟩ = some (.int .i64 (T i)))
    (hC : ∀ i, i < n → w.cell? ⟨b, off + i * 2 + 1, none⟩ = some (.int .i64 (C i)))
    (hth : w.there b off (cap * 2)) (hcap : n ≤ cap) (_hb : b < w.heap.size) (hk : k ≤ n) :
    ∀ off1, (off1 = off + k * 2 ∨ cap = k) → Mid w ((w.drewN q).setCell ⟨B, 2, none⟩ (.slice (some ⟨b, off1, none⟩) (n - k) (cap - k))) B b off1 (n - k) (cap - k) len lg (fun i => T (k + i)) (fun i => C (k + i)) := by
  intro off1 ho
  have hne : ∀ o, (⟨B, 2, none⟩ : Addr) ≠ ⟨b, o, none⟩ := fun o e => hBb (by injection e with e1; exact e1.symm)
  refine ⟨?_, ?_, ?_, ?_, fun i hi => ?_, fun i hi => ?_, fun j hj => ?_, by omega, by simp [World.setCell, World.drewN], (Kept.drewN w q B _).trans (Kept.store _ _ _ _ _)⟩
  · rw [World.cell?_setCell_other _ _ _ _ (by simp)]; simpa using h0
  · rw [World.cell?_setCell_other _ _ _ _ (by simp)]; simpa using h1
  · exact World.cell?_setCell_same _ _ _ (u := .slice (some ⟨b, off, none⟩) n cap) (by simpa using h2)
  · rw [World.frozen?_setCell]; simpa using f2
  · have : off1 = off + k * 2 := by rcases ho with h | h; exact h; omega
    subst this
    rw [World.cell?_setCell_other _ _ _ _ (hne _), show off + k * 2 + i * 2 = off + (k + i) * 2 from by omega]
    simpa using hT (k + i) (by omega)
  · have : off1 = off + k * 2 := by rcases ho with h | h; exact h; omega
    subst this
    rw [World.cell?_setCell_other _ _ _ _ (hne _), show off + k * 2 + i * 2 + 1 = off + (k + i) * 2 + 1 from by omega]
    simpa using hC (k + i) (by omega)
  · have : off1 = off + k * 2 := by rcases ho with h | h; exact h; omega
    subst this
    have := hth (k * 2 + j) (by omega)
    rw [World.cell?_setCell_other _ _ _ _ (hne _), World.frozen?_setCell, Nat.add_assoc]
    simpa using this

set_option maxRecDepth 10000 in
set_option maxHeartbeats 800000 in
theorem add_some (B b off n cap : Nat) (len now c : Int) (lg : Bool) (T C : Nat → Int) (w : World)
    (h0 : w.cell? ⟨B, 0, none⟩ = some (.int .i64 len)) (h1 : w.cell? ⟨B, 1, none⟩ = some (.bool lg)) (h2 : w.cell? ⟨B, 2, none⟩ = some (.slice (some ⟨b, off, none⟩) n cap))
    (f2 : w.frozen? ⟨B, 2, none⟩ = false) (hBb : ¬ b = B)
    (hT : ∀ i, i < n → w.cell? ⟨b, off + i * 2, none⟩ = some (.int .i64 (T i)))
    (hC : ∀ i, i < n → w.cell? ⟨b, off + i * 2 + 1, none⟩ = some (.int .i64 (C i)))
    (hth : w.there b off (cap * 2)) (hcap : n ≤ cap) (hb : b < w.heap.size)
    (hn : n ≤ 5000)
    (hl1 : -4611686018427387904 ≤ len) (hl2 : len ≤ 4611686018427387904) (hn1 : -2305843009213693952 ≤ now) (hn2 : now ≤ 2305843009213693952) :
    Calls Try.prog 6 #[.pointer (some ⟨B, 0, none⟩), .int .i64 now, .int .i64 c] w fun e w' => AddLeft w B (some b) len now c lg n T C e w' := by
  obtain ⟨i0, hi, hz0, hz1, hz2⟩ := info_parts Try.info35
  have HI : Hid (Try.prog.info? 35 = some i0 ∧ i0.zero = some (.agg #[.int .i64 0, .int .i64 0]) ∧ i0.size = 2 ∧ i0.bytes = 16) := ⟨hi, hz0, hz1, hz2⟩
  clear hi hz0 hz1 hz2
  go_enter Try.func6, Try.ntmps6
  go_upto_block 0 with fail
  go_cut [7] (fun i wr => ∃ k q : Nat, k ≤ n ∧ i = .int .i64 k ∧ wr = w.drewN q ∧ (∀ j, j < k → T j ≤ now - len) ∧ (k < n → now - len < T k))
  case first =>
    go_wp2_with fail
    go_loopw [7] (fun i wr => ∃ k q : Nat, k ≤ n ∧ i = .int .i64 k ∧ wr = w.drewN q ∧ ∀ j, j < k → T j ≤ now - len) (fun i _ => n - (intOf i).toNat)
    case atStart => exact ⟨0, 0, Nat.zero_le _, rfl, rfl, fun j h => absurd h (by omega)⟩
    case round =>
      obtain ⟨k, q, hk, rfl, rfl, hg⟩ := hrel
      by_cases hlt : k < n
      · have hlt' : (k : Int) < (n : Int) := by omega
        have hc := hT k hlt
        go_wp2_with fail
        go_quiet (fail)
        by_cases hle : T k ≤ now - len
        · go_wp2
          go_roundw
          case rel => exact ⟨k + 1, q + nq, by omega, by go_num, rfl, fun j hj => by by_cases e : j = k; subst e; exact hle; exact hg j (by omega)⟩
          case measure => simp [intOf]; omega
        · go_wp2
          go_meet
          case rel => exact ⟨k, q + nq, hk, rfl, rfl, hg, fun _ => by omega⟩
      · have hlt' : decide ((k : Int) < (n : Int)) = false := decide_eq_false (by omega)
        go_wp2_with fail
        go_quiet (fail)
        go_wp2
        go_meet
        case rel => exact ⟨k, q + nq, hk, rfl, by rw [World.drewN_drewN], hg, fun h => absurd h hlt⟩
  case rest =>
    obtain ⟨k, q, hk, rfl, rfl, hgone, hstays⟩ := hcut
    go_upto_region 4 with fail
    go_cut [7] (fun i wr => i = .int .i64 k ∧ ∃ off1 : Nat, Mid w wr B b off1 (n - k) (cap - k) len lg (fun i => T (k + i)) (fun i => C (k + i)))
    case first =>
      have hM := Mid.of q h0 h1 h2 f2 hBb hT hC hth hcap hb hk
      have HM : Hid (∀ off1, (off1 = off + k * 2 ∨ cap = k) → Mid w ((w.drewN q).setCell ⟨B, 2, none⟩ (.slice (some ⟨b, off1, none⟩) (n - k) (cap - k))) B b off1 (n - k) (cap - k) len lg (fun i => T (k + i)) (fun i => C (k + i))) := hM
      clear hM hT hC hth hgone hstays h0 h1
      by_cases hck : cap = k
      · have hck' : cap - k = 0 := by omega
        go_wp2
        go_meet
        case rel => exact ⟨rfl, off, by have := HM.out off (Or.inr hck); rw [hck'] at this ⊢; exact this⟩
      · go_wp2
        go_meet
        case rel => exact ⟨rfl, off + k * 2, HM.out _ (Or.inl rfl)⟩
    case rest =>
      obtain ⟨rfl, off1, hM⟩ := hcut
      clear hT hC hth h0 h1 h2 f2
      obtain ⟨r, hr⟩ : ∃ r, r = n - k := ⟨_, rfl⟩
      obtain ⟨cp, hcp⟩ : ∃ cp, cp = cap - k := ⟨_, rfl⟩
      obtain ⟨C1, hC1⟩ : ∃ C1 : Nat → Int, C1 = fun i => C (k + i) := ⟨_, rfl⟩
      obtain ⟨T1, hT1⟩ : ∃ T1 : Nat → Int, T1 = fun i => T (k + i) := ⟨_, rfl⟩
      rw [← hr, ← hcp, ← hC1, ← hT1] at hM
      have hrn : r ≤ 5000 := by omega
      have HE : Hid (r = n - k ∧ cp = cap - k ∧ C1 = (fun i => C (k + i)) ∧ T1 = (fun i => T (k + i))) := ⟨hr, hcp, hC1, hT1⟩
      have HG : Hid ((∀ j, j < k → T j ≤ now - len) ∧ (k < n → now - len < T k)) := ⟨hgone, hstays⟩
      clear hr hcp hC1 hT1 hgone hstays
      have g0 := hM.c0
      have g1 := hM.c1
      have g2 := hM.c2
      have gf := hM.f2
      have gle := hM.le
      go_upto_block 2 with fail
      go_cut [8] (fun i wr => wr = wc ∧ ∃ m : Nat, m ≤ r ∧ i = .int .i64 m ∧ (∀ j, m ≤ j → j < r → ¬ Pl.Beats lg (C1 j) c) ∧ (0 < m → Pl.Beats lg (C1 (m - 1)) c))
      case first =>
        go_wp2_with fail
        go_loopw [8] (fun i wr => wr = wc ∧ ∃ m : Nat, m ≤ r ∧ i = .int .i64 m ∧ (∀ j, m ≤ j → j < r → ¬ Pl.Beats lg (C1 j) c)) (fun i _ => (intOf i).toNat)
        case atStart => exact ⟨rfl, r, Nat.le_refl _, rfl, fun j h1 h2 => absurd h2 (by omega)⟩
        case round =>
          obtain ⟨rfl, m, hm, rfl, hbt⟩ := hrel
          have HB : Hid (∀ j, m ≤ j → j < r → ¬ Pl.Beats lg (C1 j) c) := hbt
          clear hbt
          by_cases hm0 : m = 0
          · subst hm0
            go_wp2
            go_meet
            case rel => exact ⟨rfl, 0, by omega, rfl, HB.out, fun h => absurd h (by omega)⟩
          · obtain ⟨m', rfl⟩ : ∃ m', m = m' + 1 := ⟨m - 1, by omega⟩
            have gc := hM.c m' (by omega)
            by_cases hbe : Pl.Beats lg (C1 m') c
            · have HBE : Hid (Pl.Beats lg (C1 m') c) := hbe
              clear hbe
              go_wp2_with (go_at_call 9; refine (beats_any B lg (C1 m') c _ g1 true (by simpa using HBE.out)).mono ?_; rintro e w' ⟨rfl, rfl⟩)
              go_meet
              case rel => exact ⟨rfl, m' + 1, hm, by go_num, HB.out, fun _ => HBE.out⟩
            · have HBE : Hid (¬ Pl.Beats lg (C1 m') c) := hbe
              clear hbe
              go_wp2_with (go_at_call 9; refine (beats_any B lg (C1 m') c _ g1 false (by simpa using HBE.out)).mono ?_; rintro e w' ⟨rfl, rfl⟩)
              go_roundw
              case rel => exact ⟨trivial, m', by omega, by go_num, fun j h1 h2 => by by_cases e : j = m'; subst e; exact HBE.out; exact HB.out j (by omega) h2⟩
              case measure => simp [intOf]
      case rest =>
        obtain ⟨rfl, m, hm, rfl, hbt, hbest⟩ := hcut
        have HL : Hid ((∀ j, m ≤ j → j < r → ¬ Pl.Beats lg (C1 j) c) ∧ (0 < m → Pl.Beats lg (C1 (m - 1)) c)) := ⟨hbt, hbest⟩
        have hmc : m ≤ cp := by omega
        have hra0 : Hid (∀ o, (wc.alloc o).rangeAt b off1 (entries T1 C1 m)) := fun o => World.rangeAt_alloc (entries_range m (fun i hi => hM.t i (by omega)) (fun i hi => hM.c i (by omega))) o
        have hth0 : Hid (∀ o, (wc.alloc o).there b off1 (cp * 2)) := fun o => World.there_alloc hM.th o
        have hbl : Hid (∀ o, b < (wc.alloc o).heap.size) := fun o => by have := hM.size; simp; omega
        clear hbt hbest
        go_wp2_with (at_builtin; refine wpList_append_row _ rfl (.tmp 74) (.tmp 78) 28 rfl 35 i0 (.agg #[.int .i64 0, .int .i64 0]) 2 16 Try.underlying28 HI.out.1 HI.out.2.1 HI.out.2.2.1 HI.out.2.2.2 rfl (by decide) b off1 m cp (entries T1 C1 m) rfl (entries_length _ _ _) (hra0.out _) (hth0.out _) ⟨wc.heap.size, 0, none⟩ 1 1 [.int .i64 now, .int .i64 c] rfl rfl ?k1 ?k2 (by decide) (hbl.out _) ?k3 ?k4 ?_)
        case k1 => exact cells_new2 _ _ _ _ _ rfl
        case k2 => intro u hu; simp at hu; rcases hu with rfl | rfl <;> rfl
        case k3 => unfold maxLen; omega
        case k4 => omega
        intro b' off' cap' w1 hb' hlt' hcap' hra hthe hgr
        obtain ⟨e1, e2, e3, e4⟩ := HE.out
        rw [e4, e3] at hra
        have hBw : B < wc.heap.size := World.block_lt_of_cell? wc _ g0
        have hcB : ∀ o, w1.cell? ⟨B, o, none⟩ = wc.cell? ⟨B, o, none⟩ := fun o => by
          rw [World.cell?_of_block (w := wc.alloc _) (hgr.block B (by simp; omega) (fun e => hBb (by simpa using e.symm)))]
          exact World.cell?_of_block (Below.heap_alloc _ _ _ hBw)
        have hfB : w1.frozen? ⟨B, 2, none⟩ = false := by
          rw [World.frozen?_of_block (w := wc.alloc _) (hgr.block B (by simp; omega) (fun e => hBb (by simpa using e.symm)))]
          rw [World.frozen?_of_block (w := wc) (Below.heap_alloc _ _ _ hBw)]
          exact gf
        have q0 := (hcB 0).trans g0
        have q1 := (hcB 1).trans g1
        have q2 := (hcB 2).trans g2
        have hneB : ¬ b' = B := by rcases hb' with h | h; rw [h]; exact hBb; omega
        have hfin : Hid (Win (w1.setCell ⟨B, 2, none⟩ (.slice (some ⟨b', off', none⟩) (m + 1) cap')) B (some b') len lg (m + 1) (Pl.T' T now k m) (Pl.C' C c k m)) := win_of q0 q1 q2 hfB hneB hlt' hcap' hra hthe
        have hkept : Hid (Kept w (w1.setCell ⟨B, 2, none⟩ (.slice (some ⟨b', off', none⟩) (m + 1) cap')) B (some b)) :=
          ((hM.kept.trans (Kept.alloc wc B _ _)).trans (Kept.grown hgr B)).trans (Kept.store _ _ _ _ _)
        have hhead := head_of hra
        have hadd : Hid (Pl.Added lg (now - len) now c n T C k m) := by
          have h1 := HL.out.1
          have h2 := HL.out.2
          rw [e3] at h1 h2
          exact ⟨hk, HG.out.1, HG.out.2, by omega, fun j hj1 hj2 => h1 j hj1 (by omega), h2⟩
        have hnew : Hid (some b = some b' ∨ w.heap.size ≤ b') := by rcases hb' with h | h; exact Or.inl (by rw [h]); exact Or.inr (by have := hM.size; omega)
        clear hcB hra hthe hgr HE HG HL hra0 hth0 hbl e1 e2 e3 e4 hb' hM g0 g1 g2 gf
        go_wp2
        go_ret
        exact ⟨k, m, rfl, hadd.out, b', hnew.out, hfin.out, hkept.out⟩
set_option maxRecDepth 10000 in
set_option maxHeartbeats 800000 in
theorem add_nil (B : Nat) (len now c : Int) (lg : Bool) (T C : Nat → Int) (w : World)
    (h0 : w.cell? ⟨B, 0, none⟩ = some (.int .i64 len)) (h1 : w.cell? ⟨B, 1, none⟩ = some (.bool lg)) (h2 : w.cell? ⟨B, 2, none⟩ = some (.slice none 0 0))
    (f2 : w.frozen? ⟨B, 2, none⟩ = false) :
    Calls Try.prog 6 #[.pointer (some ⟨B, 0, none⟩), .int .i64 now, .int .i64 c] w fun e w' => AddLeft w B none len now c lg 0 T C e w' := by
  obtain ⟨i0, hi, hz0, hz1, hz2⟩ := info_parts Try.info35
  have HI : Hid (Try.prog.info? 35 = some i0 ∧ i0.zero = some (.agg #[.int .i64 0, .int .i64 0]) ∧ i0.size = 2 ∧ i0.bytes = 16) := ⟨hi, hz0, hz1, hz2⟩
  clear hi hz0 hz1 hz2
  have hBw : B < w.heap.size := World.block_lt_of_cell? w _ h0
  go_enter Try.func6, Try.ntmps6
  go_wp2_with fail
  refine wp_loop_rounds 1 ?_
  rw [rounds_succ]
  go_wp2_with fail
  go_quiet (fail)
  go_wp2_with fail
  refine wp_loop_rounds 1 ?_
  rw [rounds_succ]
  go_wp2_with (at_builtin; refine wpList_append_row_nil _ rfl (.tmp 74) (.tmp 78) 28 rfl 35 i0 (.agg #[.int .i64 0, .int .i64 0]) 2 16 Try.underlying28 HI.out.1 HI.out.2.1 HI.out.2.2.1 HI.out.2.2.2 rfl (by decide) rfl ⟨w.heap.size, 0, none⟩ 1 1 [.int .i64 now, .int .i64 c] rfl rfl ?k1 ?k2 (by decide) ?k3 ?k4 ?_)
  case k1 => exact cells_new2 _ _ _ _ _ (by simp [World.setCell, World.drewN])
  case k2 => intro u hu; simp at hu; rcases hu with rfl | rfl <;> rfl
  case k3 => unfold maxLen; omega
  case k4 => omega
  intro b' cap' w1 hb' hlt' hcap' hra hthe hgr
  obtain ⟨W, hW⟩ : ∃ W : World, W = (w.drewN nq).setCell ⟨B, 2, none⟩ (.slice none 0 0) := ⟨_, rfl⟩
  rw [← hW] at hgr
  have hWs : W.heap.size = w.heap.size := by rw [hW]; simp [World.setCell, World.drewN]
  have hW0 : W.cell? ⟨B, 0, none⟩ = some (.int .i64 len) := by rw [hW, World.cell?_setCell_other _ _ _ _ (by simp)]; simpa using h0
  have hW1 : W.cell? ⟨B, 1, none⟩ = some (.bool lg) := by rw [hW, World.cell?_setCell_other _ _ _ _ (by simp)]; simpa using h1
  have hW2 : W.cell? ⟨B, 2, none⟩ = some (.slice none 0 0) := by rw [hW]; exact World.cell?_setCell_same _ _ _ (u := .slice none 0 0) (by simpa using h2)
  have hWf : W.frozen? ⟨B, 2, none⟩ = false := by rw [hW, World.frozen?_setCell]; simpa using f2
  have hWk : Kept w W B none := by rw [hW]; exact (Kept.drewN w nq B _).trans (Kept.store _ _ _ _ _)
  have hBW : B < W.heap.size := by omega
  have hcB : ∀ o, w1.cell? ⟨B, o, none⟩ = W.cell? ⟨B, o, none⟩ := fun o => by
    rw [World.cell?_of_block (w := W.alloc _) (hgr.block B (by simp; omega) (by simp))]
    exact World.cell?_of_block (Below.heap_alloc _ _ _ hBW)
  have hfB : w1.frozen? ⟨B, 2, none⟩ = false := by
    rw [World.frozen?_of_block (w := W.alloc _) (hgr.block B (by simp; omega) (by simp))]
    rw [World.frozen?_of_block (w := W) (Below.heap_alloc _ _ _ hBW)]
    exact hWf
  have q0 := (hcB 0).trans hW0
  have q1 := (hcB 1).trans hW1
  have q2 := (hcB 2).trans hW2
  have hneB : ¬ b' = B := by omega
  have hra' : w1.rangeAt b' 0 (entries (fun i => T (0 + i)) (fun i => C (0 + i)) 0 ++ [.int .i64 now, .int .i64 c]) := hra
  have hfin : Hid (Win (w1.setCell ⟨B, 2, none⟩ (.slice (some ⟨b', 0, none⟩) 1 cap')) B (some b') len lg (0 + 1) (Pl.T' T now 0 0) (Pl.C' C c 0 0)) := win_of q0 q1 q2 hfB hneB hlt' hcap' hra' hthe
  have hkept : Hid (Kept w (w1.setCell ⟨B, 2, none⟩ (.slice (some ⟨b', 0, none⟩) 1 cap')) B none) :=
    ((hWk.trans (Kept.alloc W B _ _)).trans (Kept.grown hgr B)).trans (Kept.store _ _ _ _ _)
  have hhead := head_of hra'
  have hadd : Hid (Pl.Added lg (now - len) now c 0 T C 0 0) :=
    ⟨Nat.le_refl _, fun j h => absurd h (by omega), fun h => absurd h (by omega), by omega, fun j h h' => absurd h' (by omega), fun h => absurd h (by omega)⟩
  rw [Nat.zero_add] at hhead
  clear hcB hra hra' hthe hgr hW hWs hW0 hW1 hW2 hWf hWk h0 h1 h2 f2
  go_wp2
  go_ret
  exact ⟨0, 0, rfl, hadd.out, b', Or.inr (by omega), hfin.out, hkept.out⟩

/-- ████ (*Window).Add, on every window. -/
theorem add_any (B : Nat) (g : Option Nat) (len now c : Int) (lg : Bool) (n : Nat) (T C : Nat → Int) (w : World) (h : Win w B g len lg n T C) (hn : n ≤ 5000)
    (hl1 : -4611686018427387904 ≤ len) (hl2 : len ≤ 4611686018427387904) (hn1 : -2305843009213693952 ≤ now) (hn2 : now ≤ 2305843009213693952) :
    Calls Try.prog 6 #[.pointer (some ⟨B, 0, none⟩), .int .i64 now, .int .i64 c] w fun e w' => AddLeft w B g len now c lg n T C e w' := by
  obtain ⟨v, hv, hq⟩ := h.c2
  cases g with
  | none =>
    obtain ⟨rfl, rfl⟩ := hq.nil rfl
    exact add_nil B len now c lg T C w h.c0 h.c1 hv h.f2
  | some b =>
    obtain ⟨off, cap, rfl, h4, h5, h6, h7, h8, h9⟩ := hq.row b rfl
    exact add_some B b off n cap len now c lg T C w h.c0 h.c1 hv h.f2 h4 h7 h8 h9 h6 h5 hn hl1 hl2 hn1 hn2

set_option maxHeartbeats 400000 in
theorem bytes8_any (a b : Int) (ao : Option Addr) (n c : Nat) (w : World) (hn : n ≤ 1048576) :
    Calls Try.prog 8 #[.int .i64 a, .int .i64 b, .slice ao n c] w fun e w' => e = .returned (.bool true) ∧ w = w' := by
  go_enter Try.func8, Try.ntmps8
  go_wp2
  go_ret
  exact ⟨rfl, rfl⟩

set_option maxHeartbeats 400000 in
theorem bytes8_big (a b : Int) (ao : Option Addr) (n c : Nat) (w : World) (hn : ¬ n ≤ 1048576) :
    Calls Try.prog 8 #[.int .i64 a, .int .i64 b, .slice ao n c] w fun e w' => e = .returned (.bool false) ∧ w = w' := by
  go_enter Try.func8, Try.ntmps8
  go_wp2
  go_ret
  exact ⟨rfl, rfl⟩

set_option maxHeartbeats 400000 in
theorem bytes5_any (a : Int) (b : Bool) (ao : Option Addr) (n c : Nat) (w : World) (hn : n ≤ 1048576) :
    Calls Try.prog 5 #[.int .i64 a, .bool b, .slice ao n c] w fun e w' => e = .returned (.bool true) ∧ w = w' := by
  go_enter Try.func5, Try.ntmps5
  go_wp2
  go_ret
  exact ⟨rfl, rfl⟩

set_option maxHeartbeats 400000 in
theorem bytes5_big (a : Int) (b : Bool) (ao : Option Addr) (n c : Nat) (w : World) (hn : ¬ n ≤ 1048576) :
    Calls Try.prog 5 #[.int .i64 a, .bool b, .slice ao n c] w fun e w' => e = .returned (.bool false) ∧ w = w' := by
  go_enter Try.func5, Try.ntmps5
  go_wp2
  go_ret
  exact ⟨rfl, rfl⟩
end Go.Proofs.Qxb6629285a
