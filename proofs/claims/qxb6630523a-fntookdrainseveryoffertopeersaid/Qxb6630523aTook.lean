/-
  Seat b6630523a. THE WALK of Took (8).
-/
import Derived.Test.Qxb6630523aBase
import Derived.Deep.RegionHeld3
import Derived.Deep.DrawnRows
import Derived.Laws.CopyOwn
namespace Go.Proofs.Qxb6630523a
open Go.RowKit
attribute [local go_sem ↓] Go.wp_at_zero Go.wp_at_succ

/-- One phase stored. -/
theorem Sp.put {w : World} {p g1 g2 n : Nat} {oa : Option Addr} {m oc : Nat} {delay start last : Int} {rt ag : Nat → Bool} {P pe of : Nat → Int} (h : Sp w p g1 g2 n oa m oc delay start last rt ag P pe of) (k : Nat) (hk : k < n) (v : Int) :
    Sp (w.setCell ⟨g2, k * 3, none⟩ (.int .u8 v)) p g1 g2 n oa m oc delay start last rt ag (fun j => if j = k then v else P j) pe of := by
  have far : ∀ b o u, b ≠ g2 → w.cell? ⟨b, o, none⟩ = some u → (w.setCell ⟨g2, k * 3, none⟩ (.int .u8 v)).cell? ⟨b, o, none⟩ = some u := fun b o u hb hu => by
    rw [World.cell?_setCell_other _ _ _ _ (fun e => hb (by injection e with e1; exact e1.symm))]; exact hu
  have near : ∀ o u, o ≠ k * 3 → w.cell? ⟨g2, o, none⟩ = some u → (w.setCell ⟨g2, k * 3, none⟩ (.int .u8 v)).cell? ⟨g2, o, none⟩ = some u := fun o u ho hu => by
    rw [World.cell?_setCell_other _ _ _ _ (fun e => ho (by injection e with _ e2; exact e2.symm))]; exact hu
  have hsz : (w.setCell ⟨g2, k * 3, none⟩ (.int .u8 v)).heap.size = w.heap.size := by simp [World.setCell]
  refine ⟨far _ _ _ h.apart.1 h.c0, far _ _ _ h.apart.1 h.c1, far _ _ _ h.apart.1 h.c2, far _ _ _ h.apart.1 h.c3, far _ _ _ h.apart.1 h.c4, far _ _ _ h.apart.1 h.c5, fun j hj => ?_, fun j hj => ?_, fun j hj => near _ _ (by omega) (h.peer j hj), fun j hj => near _ _ (by omega) (h.again j hj), fun j hj => ?_, fun hm => ?_, ?_, h.apart⟩
  · obtain ⟨q0, q1, q2, q3⟩ := h.slots j hj
    exact ⟨far _ _ _ h.apart.2.1 q0, far _ _ _ h.apart.2.1 q1, far _ _ _ h.apart.2.1 q2, far _ _ _ h.apart.2.1 q3⟩
  · by_cases e : j = k
    · subst e
      simp only [if_true]
      exact World.cell?_setCell_same _ _ _ (h.phase j hj)
    · simp only [e, if_false]
      exact near _ _ (by omega) (h.phase j hj)
  · have := h.there j hj
    refine ⟨?_, by rw [World.frozen?_setCell]; exact this.2⟩
    by_cases e : j = k * 3
    · subst e
      rw [Nat.zero_add, World.cell?_setCell_same _ _ _ (h.phase k hk)]
      rfl
    · rw [World.cell?_setCell_other _ _ _ _ (fun e' => e (by injection e' with _ e2; omega))]; exact this.1
  · obtain ⟨b, off, e, hl, hc⟩ := h.off hm
    exact ⟨b, off, e, by rw [hsz]; exact hl, fun i hi => far _ _ _ (h.apart.2.2 b off e) (hc i hi)⟩
  · rw [hsz]; exact h.lt

/-- The phases may be named otherwise. -/
theorem Sp.of_eq {w : World} {p g1 g2 n : Nat} {oa : Option Addr} {m oc : Nat} {delay start last : Int} {rt ag : Nat → Bool} {P P' pe of : Nat → Int} (h : Sp w p g1 g2 n oa m oc delay start last rt ag P pe of) (e : ∀ k, k < n → P' k = P k) :
    Sp w p g1 g2 n oa m oc delay start last rt ag P' pe of :=
  { h with phase := fun k hk => by rw [e k hk]; exact h.phase k hk }

/-- What Took leaves. -/
def TookP (w : World) (p g1 g2 n : Nat) (oa : Option Addr) (m oc : Nat) (delay start last : Int) (rt ag : Nat → Bool) (P pe of : Nat → Int) (e : Ending) (w' : World) : Prop :=
  e = .returned (.tuple #[]) ∧ Sp w' p g1 g2 n oa m oc delay start last rt ag P pe of ∧ Below g2 w w'

set_option maxRecDepth 10000 in
set_option maxHeartbeats 1000000 in
theorem took_any {w : World} {p g1 g2 n : Nat} {oa : Option Addr} {m oc : Nat} {delay start last : Int} {rt ag : Nat → Bool} {p0 pe of : Nat → Int} (i : Int) (t : Nat)
    (hn : n ≤ 4096) (hs : Sp w p g1 g2 n oa m oc delay start last rt ag (Pl.ph (fun k => decide (p0 k = 1) && decide (pe k = i)) (fun k => if rt k then 2 else 3) p0 t) pe of) :
    Calls Try.prog 8 #[.pointer (some ⟨p, 0, none⟩), .int .i64 i] w (TookP w p g1 g2 n oa m oc delay start last rt ag (Pl.ph (fun k => decide (p0 k = 1) && decide (pe k = i)) (fun k => if rt k then 2 else 3) p0 (t + 1)) pe of) := by
  have c0 := hs.c0
  have HS : Hid (Sp w p g1 g2 n oa m oc delay start last rt ag (Pl.ph (fun k => decide (p0 k = 1) && decide (pe k = i)) (fun k => if rt k then 2 else 3) p0 t) pe of) := hs
  clear hs
  go_enter Try.func8, Try.ntmps8
  go_wp2
  go_loopw [12] (fun v wr => ∃ k : Nat, k ≤ n ∧ v = .int .i64 k ∧ Hid (Pl.cnt (fun k => decide (p0 k = 1) && decide (pe k = i)) k ≤ t) ∧ Hid (Sp wr p g1 g2 n oa m oc delay start last rt ag (Pl.ph (fun k => decide (p0 k = 1) && decide (pe k = i)) (fun k => if rt k then 2 else 3) p0 t) pe of) ∧ Hid (Below w.heap.size w wr)) (fun v _ => n - (intOf v).toNat)
  case atStart => exact ⟨0, Nat.zero_le _, rfl, Nat.zero_le _, HS, Below.refl _ _⟩
  case round =>
    obtain ⟨k, hk, rfl, hC, hS, hB⟩ := hrel
    clear c0
    by_cases hlt : k < n
    · have hlt' : (k : Int) < (n : Int) := by omega
      have hk1 : (0 : Int) ≤ (k : Int) := by omega
      have c4 := hS.out.c4
      obtain ⟨s0, s1, s2, s3⟩ := hS.out.slots k hlt
      have d0 := hS.out.phase k hlt
      have d1 := hS.out.peer k hlt
      have hfr := (hS.out.there (k * 3) (by omega)).2
      rw [Nat.zero_add] at hfr
      obtain ⟨q, hq⟩ : ∃ q, q = Pl.ph (fun k => decide (p0 k = 1) && decide (pe k = i)) (fun k => if rt k then 2 else 3) p0 t k := ⟨_, rfl⟩
      obtain ⟨r, hr⟩ : ∃ r, r = pe k := ⟨_, rfl⟩
      obtain ⟨f, hf⟩ : ∃ f, f = rt k := ⟨_, rfl⟩
      rw [← hq] at d0
      rw [← hr] at d1
      rw [← hf] at s2
      have Hq : Hid (q = Pl.ph (fun k => decide (p0 k = 1) && decide (pe k = i)) (fun k => if rt k then 2 else 3) p0 t k) := hq
      have Hr : Hid (r = pe k) := hr
      have Hf : Hid (f = rt k) := hf
      clear hq hr hf
      have g1l := hS.out.lt.2.1
      have g2l := hS.out.lt.2.2
      have pl := hS.out.lt.1
      have e1 : ¬ g1 = wr.heap.size := by omega
      have e2 : ¬ g2 = wr.heap.size := by omega
      have e3 : ¬ p = wr.heap.size := by omega
      by_cases h1 : q = 1
      · by_cases h2 : r = i
        · have hh : Hid ((decide (p0 k = 1) && decide (pe k = i)) = true ∧ Pl.cnt (fun k => decide (p0 k = 1) && decide (pe k = i)) k = t) := by
            have e := Hq.out
            rw [h1] at e
            have hr := Hr.out
            have hc := hC.out
            unfold Pl.ph at e
            by_cases hp : (decide (p0 k = 1) && decide (pe k = i)) = true
            · by_cases hct : Pl.cnt (fun k => decide (p0 k = 1) && decide (pe k = i)) k < t
              · rw [if_pos ⟨hp, hct⟩] at e
                dsimp only at e
                split at e <;> cases e
              · exact ⟨hp, by omega⟩
            · rw [if_neg (fun h => hp h.1)] at e
              exact absurd (show (decide (p0 k = 1) && decide (pe k = i)) = true by simp [← e, ← hr, h2]) hp
          have hfin : Hid (∀ v : Int, (if rt k then 2 else 3) = v → Sp (wr.setCell ⟨g2, k * 3, none⟩ (.int .u8 v)) p g1 g2 n oa m oc delay start last rt ag (Pl.ph (fun k => decide (p0 k = 1) && decide (pe k = i)) (fun k => if rt k then 2 else 3) p0 (t + 1)) pe of) := fun v hv =>
            (hS.out.put k hlt v).of_eq (fun j _ => by
              have := Pl.ph_step (h := fun k => decide (p0 k = 1) && decide (pe k = i)) (a := fun k => if rt k then 2 else 3) (p := p0) hh.out.1 hh.out.2 j
              simp only [hv] at this
              exact this)
          have hg2 : Hid (g2 < w.heap.size) := HS.out.lt.2.2
          cases f
          · go_wp2
            refine bodyPost_ret (results_none rfl _ _ _) rfl ⟨rfl, (hfin.out 3 (by rw [← Hf.out]; rfl)).kept (World.grownBy_alloc _ _ _), ?_⟩
            have h5 := hg2.out
            exact ((hB.out.mono (Nat.le_of_lt h5)).setCell (Nat.le_refl _) _).alloc (by simp only [World.setCell, Array.size_modify]; omega) _
          · go_wp2
            have hlast : Sp ((wr.setCell ⟨g2, k * 3, none⟩ (.int .u8 3)).setCell ⟨g2, k * 3, none⟩ (.int .u8 2)) p g1 g2 n oa m oc delay start last rt ag (Pl.ph (fun k => decide (p0 k = 1) && decide (pe k = i)) (fun k => if rt k then 2 else 3) p0 (t + 1)) pe of :=
              ((hS.out.put k hlt 3).put k hlt 2).of_eq (fun j _ => by
                have := Pl.ph_step (h := fun k => decide (p0 k = 1) && decide (pe k = i)) (a := fun k => if rt k then 2 else 3) (p := p0) hh.out.1 hh.out.2 j
                rw [this]
                by_cases e : j = k
                · subst e; simp [← Hf.out]
                · simp [e])
            refine bodyPost_ret (results_none rfl _ _ _) rfl ⟨rfl, hlast.kept (World.grownBy_alloc _ _ _), ?_⟩
            have h5 := hg2.out
            exact (((hB.out.mono (Nat.le_of_lt h5)).setCell (Nat.le_refl _) _).setCell (Nat.le_refl _) _).alloc (by simp only [World.setCell, Array.size_modify]; omega) _
        · have hm : Hid (Pl.cnt (fun k => decide (p0 k = 1) && decide (pe k = i)) (k + 1) ≤ t) := by
            have hr := Hr.out
            have hp : (decide (p0 k = 1) && decide (pe k = i)) = false := by simp; intro _; rw [← hr]; exact h2
            have := Pl.cnt_miss (h := fun k => decide (p0 k = 1) && decide (pe k = i)) (n := k) hp
            have := hC.out
            show _ ≤ _
            omega
          go_wp2
          go_roundw
          case rel => exact ⟨k + 1, by omega, by go_num, hm, hS.out.kept (World.grownBy_alloc _ _ _), hB.out.alloc hB.out.size _⟩
          case measure => simp [intOf]; omega
      · have hm : Hid (Pl.cnt (fun k => decide (p0 k = 1) && decide (pe k = i)) (k + 1) ≤ t) := by
          have e := Hq.out
          have hc := hC.out
          show _ ≤ _
          by_cases hp : (decide (p0 k = 1) && decide (pe k = i)) = true
          · have h3 := Pl.cnt_hit (h := fun k => decide (p0 k = 1) && decide (pe k = i)) (n := k) hp
            by_cases hct : Pl.cnt (fun k => decide (p0 k = 1) && decide (pe k = i)) k < t
            · omega
            · rw [Pl.ph_next hct] at e
              simp at hp
              exact absurd (e.trans hp.1) h1
          · have hp' : (decide (p0 k = 1) && decide (pe k = i)) = false := by simpa using hp
            have := Pl.cnt_miss (h := fun k => decide (p0 k = 1) && decide (pe k = i)) (n := k) hp'
            omega
        go_wp2
        go_roundw
        case rel => exact ⟨k + 1, by omega, by go_num, hm, hS.out.kept (World.grownBy_alloc _ _ _), hB.out.alloc hB.out.size _⟩
        case measure => simp [intOf]; omega
    · go_wp2
      obtain rfl : k = n := by omega
      have h5 := HS.out.lt.2.2
      exact bodyPost_end (results_none rfl _ _ _) rfl ⟨rfl, hS.out.of_eq (fun j hj => Pl.ph_idle hC.out j hj), hB.out.mono (by omega)⟩
end Go.Proofs.Qxb6630523a
