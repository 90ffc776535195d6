/-
  Seat b6629285a. THE PLAIN LAW of the window's queue: no Go in sight. The queue is told by functions T, C (time, count of entry i < n); the script by At, Ct.
-/
namespace Go.Proofs.Qxb6629285a.Pl

/-- 'x is given before y'. -/
def Beats (lg : Bool) (x y : Int) : Prop := (lg = true ∧ y < x) ∨ (lg = false ∧ x < y)

theorem Beats.trans {lg : Bool} {x y z : Int} (h : Beats lg x y) (k : Beats lg y z) : Beats lg x z := by
  unfold Beats at *; cases lg <;> simp at * <;> omega
theorem notBeats_trans {lg : Bool} {x y z : Int} (h : ¬ Beats lg x y) (k : ¬ Beats lg y z) : ¬ Beats lg x z := by
  unfold Beats at *; cases lg <;> simp at * <;> omega
theorem notBeats_self (lg : Bool) (x : Int) : ¬ Beats lg x x := by
  unfold Beats; omega
theorem notBeats_of_beats {lg : Bool} {x y z : Int} (h : ¬ Beats lg x y) (k : Beats lg z y) : ¬ Beats lg x z := by
  unfold Beats at *; cases lg <;> simp at * <;> omega
theorem notBeats_asymm {lg : Bool} {x y : Int} (h : Beats lg x y) : ¬ Beats lg y x := by
  unfold Beats at *; cases lg <;> simp at * <;> omega

/-- What Add does to the queue: k entries have gone at the front, m of the rest are kept, the new one stands last. -/
structure Added (lg : Bool) (lim now c : Int) (n : Nat) (T C : Nat → Int) (k m : Nat) : Prop where
  kn : k ≤ n
  gone : ∀ j, j < k → T j ≤ lim
  stays : k < n → lim < T k
  mn : m ≤ n - k
  beaten : ∀ j, m ≤ j → j < n - k → ¬ Beats lg (C (k + j)) c
  best : 0 < m → Beats lg (C (k + (m - 1))) c

def T' (T : Nat → Int) (now : Int) (k m : Nat) : Nat → Int := fun i => if i < m then T (k + i) else now
def C' (C : Nat → Int) (c : Int) (k m : Nat) : Nat → Int := fun i => if i < m then C (k + i) else c

/-- THE QUEUE behind N calls of Add over the script (At, Ct). -/
structure Inv (lg : Bool) (len : Int) (At Ct : Nat → Int) (N n : Nat) (T C : Nat → Int) : Prop where
  mem : ∀ i, i < n → ∃ j, j < N ∧ T i = At j ∧ C i = Ct j
  mono : ∀ i i', i < i' → i' < n → T i ≤ T i' ∧ Beats lg (C i) (C i')
  cov : ∀ j, j < N → At j ≤ At (N - 1) - len ∨ ∃ i, i < n ∧ At j ≤ T i ∧ ¬ Beats lg (Ct j) (C i)
  few : n ≤ N

theorem Inv.start (lg : Bool) (len : Int) (At Ct T C : Nat → Int) : Inv lg len At Ct 0 0 T C :=
  ⟨fun i h => absurd h (by omega), fun i i' _ h => absurd h (by omega), fun j h => absurd h (by omega), Nat.le_refl _⟩

theorem Inv.step {lg : Bool} {len : Int} {At Ct : Nat → Int} {N n : Nat} {T C : Nat → Int} {k m : Nat} (h : Inv lg len At Ct N n T C)
    (hmono : ∀ j, j < N → At j ≤ At N) (a : Added lg (At N - len) (At N) (Ct N) n T C k m) :
    Inv lg len At Ct (N + 1) (m + 1) (T' T (At N) k m) (C' C (Ct N) k m) := by
  have hmn := a.mn
  have hkn := a.kn
  have hfew := h.few
  have hT : ∀ i, i < n → T i ≤ At N := fun i hi => by
    obtain ⟨j, hj, e, _⟩ := h.mem i hi
    rw [e]; exact hmono j hj
  have hbest : ∀ i, i < m → Beats lg (C (k + i)) (Ct N) := fun i hi => by
    have hb := a.best (by omega)
    by_cases e : i = m - 1
    · subst e; exact hb
    · exact (h.mono (k + i) (k + (m - 1)) (by omega) (by omega)).2.trans hb
  refine ⟨fun i hi => ?_, fun i i' hii hi' => ?_, fun j hj => ?_, by omega⟩
  · unfold T' C'
    by_cases him : i < m
    · obtain ⟨j, hj, e1, e2⟩ := h.mem (k + i) (by omega)
      exact ⟨j, by omega, by simp [him, e1], by simp [him, e2]⟩
    · exact ⟨N, by omega, by simp [him], by simp [him]⟩
  · unfold T' C'
    have him : i < m := by omega
    by_cases him' : i' < m
    · simp only [him, him', if_true]
      exact h.mono (k + i) (k + i') (by omega) (by omega)
    · simp only [him, him', if_true, if_false]
      exact ⟨hT _ (by omega), hbest i him⟩
  · have eN : N + 1 - 1 = N := by omega
    rw [eN]
    by_cases e : j = N
    · subst e
      exact Or.inr ⟨m, by omega, by simp [T'], by simpa [C'] using notBeats_self lg _⟩
    · have hj' : j < N := by omega
      rcases h.cov j hj' with h1 | ⟨i, hi, h1, h2⟩
      · have := hmono (N - 1) (by omega)
        left; omega
      · by_cases hik : i < k
        · left; have := a.gone i hik; omega
        · by_cases him : i - k < m
          · right
            refine ⟨i - k, by omega, ?_, ?_⟩
            · simp only [T', him, if_true]
              rw [show k + (i - k) = i from by omega]; exact h1
            · simp only [C', him, if_true]
              rw [show k + (i - k) = i from by omega]; exact h2
          · right
            have hb := a.beaten (i - k) (by omega) (by omega)
            rw [show k + (i - k) = i from by omega] at hb
            exact ⟨m, by omega, by simpa [T'] using hmono j hj', by simpa [C'] using notBeats_trans h2 hb⟩

/-- What Add answers: a count of the window, which no count of the window beats. -/
theorem Inv.answer {lg : Bool} {len : Int} {At Ct : Nat → Int} {N n : Nat} {T C : Nat → Int} {k m : Nat} (h : Inv lg len At Ct N n T C)
    (hmono : ∀ j, j < N → At j ≤ At N) (a : Added lg (At N - len) (At N) (Ct N) n T C k m) :
    (∃ j, j ≤ N ∧ (j = N ∨ At N - len < At j) ∧ C' C (Ct N) k m 0 = Ct j) ∧
    ∀ j, j ≤ N → (j = N ∨ At N - len < At j) → ¬ Beats lg (Ct j) (C' C (Ct N) k m 0) := by
  have H := h.step hmono a
  have hmn := a.mn
  have hkn := a.kn
  refine ⟨?_, fun j hj hw => ?_⟩
  · by_cases hm : 0 < m
    · obtain ⟨j, hj, e1, e2⟩ := h.mem k (by omega)
      refine ⟨j, by omega, Or.inr ?_, by simp [C', hm, e2]⟩
      rw [← e1]; exact a.stays (by omega)
    · exact ⟨N, Nat.le_refl _, Or.inl rfl, by simp [C', hm]⟩
  · have key : ∀ i, i < m + 1 → ¬ Beats lg (Ct j) (C' C (Ct N) k m i) → ¬ Beats lg (Ct j) (C' C (Ct N) k m 0) := by
      intro i hi hn
      by_cases e : i = 0
      · subst e; exact hn
      · exact notBeats_of_beats hn (H.mono 0 i (by omega) hi).2
    rcases H.cov j (by omega) with h1 | ⟨i, hi, _, h2⟩
    · have eN : N + 1 - 1 = N := by omega
      rw [eN] at h1
      have : j = N := by rcases hw with hw | hw; exact hw; omega
      subst this
      exact key m (by omega) (by simpa [C'] using notBeats_self lg _)
    · exact key i hi h2

/-- A largest and a mirrored smallest window answer each other's negation. -/
theorem mirror {len sh : Int} {At Ct At' Ct' : Nat → Int} (hA : ∀ j, At' j = At j + sh) (hC : ∀ j, Ct' j = - Ct j) {N : Nat} {hi lo : Int}
    (h1 : (∃ j, j ≤ N ∧ (j = N ∨ At N - len < At j) ∧ hi = Ct j) ∧ ∀ j, j ≤ N → (j = N ∨ At N - len < At j) → ¬ Beats true (Ct j) hi)
    (h2 : (∃ j, j ≤ N ∧ (j = N ∨ At' N - len < At' j) ∧ lo = Ct' j) ∧ ∀ j, j ≤ N → (j = N ∨ At' N - len < At' j) → ¬ Beats false (Ct' j) lo) : lo = - hi := by
  obtain ⟨⟨j1, hj1, w1, e1⟩, a1⟩ := h1
  obtain ⟨⟨j2, hj2, w2, e2⟩, a2⟩ := h2
  have b1 := a1 j2 hj2 (by rcases w2 with w | w; exact Or.inl w; right; have := hA N; have := hA j2; omega)
  have b2 := a2 j1 hj1 (by rcases w1 with w | w; exact Or.inl w; right; have := hA N; have := hA j1; omega)
  have c1 := hC j1
  have c2 := hC j2
  simp [Beats] at b1 b2
  omega

end Go.Proofs.Qxb6629285a.Pl
