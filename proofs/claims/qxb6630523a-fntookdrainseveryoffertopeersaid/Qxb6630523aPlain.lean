/-
  Seat b6630523a. THE PLAIN LAW: Took answers the offers one after the other. No Go in sight. 'h k': slot k has an outstanding offer to the peer; 'a k': the phase that answers it; 'p k': the phase it has.
-/
namespace Go.Proofs.Qxb6630523a.Pl

/-- How many of the first n slots have an outstanding offer. -/
def cnt (h : Nat → Bool) : Nat → Nat
  | 0 => 0
  | n + 1 => cnt h n + if h n then 1 else 0

theorem cnt_hit {h : Nat → Bool} {n : Nat} (e : h n = true) : cnt h (n + 1) = cnt h n + 1 := by simp [cnt, e]
theorem cnt_miss {h : Nat → Bool} {n : Nat} (e : h n = false) : cnt h (n + 1) = cnt h n := by simp [cnt, e]
theorem cnt_le (h : Nat → Bool) : ∀ n, cnt h n ≤ n
  | 0 => Nat.le_refl _
  | n + 1 => by have := cnt_le h n; unfold cnt; split <;> omega
theorem cnt_step (h : Nat → Bool) (n : Nat) : cnt h n ≤ cnt h (n + 1) := Nat.le_add_right _ _
theorem cnt_mono (h : Nat → Bool) {m : Nat} : ∀ n, m ≤ n → cnt h m ≤ cnt h n
  | 0, e => by obtain rfl : m = 0 := by omega
               exact Nat.le_refl _
  | n + 1, e => by
    by_cases e' : m = n + 1
    · subst e'; exact Nat.le_refl _
    · have h1 := cnt_mono h (m := m) n (by omega)
      have h2 := cnt_step h n
      omega
theorem cnt_lt {h : Nat → Bool} {m n : Nat} (e : h m = true) (hmn : m < n) : cnt h m < cnt h n := by
  have h1 := cnt_hit e
  have h2 := cnt_mono h n (show m + 1 ≤ n by omega)
  omega

/-- The phases behind t calls of Took. -/
def ph (h : Nat → Bool) (a p : Nat → Int) (t k : Nat) : Int := if h k = true ∧ cnt h k < t then a k else p k
/-- The phases when all is answered. -/
def want (h : Nat → Bool) (a p : Nat → Int) (k : Nat) : Int := if h k = true then a k else p k

theorem ph_zero (h : Nat → Bool) (a p : Nat → Int) (k : Nat) : ph h a p 0 k = p k := by simp [ph]
theorem ph_miss {h : Nat → Bool} {a p : Nat → Int} {t k : Nat} (e : h k = false) : ph h a p t k = p k := by simp [ph, e]
theorem ph_done {h : Nat → Bool} {a p : Nat → Int} {t k : Nat} (e : h k = true) (hc : cnt h k < t) : ph h a p t k = a k := by simp [ph, e, hc]
theorem ph_next {h : Nat → Bool} {a p : Nat → Int} {t k : Nat} (hc : ¬ cnt h k < t) : ph h a p t k = p k := by simp [ph, hc]

/-- The call that meets slot k, the first that is still out. -/
theorem ph_step {h : Nat → Bool} {a p : Nat → Int} {t k : Nat} (e : h k = true) (hc : cnt h k = t) (j : Nat) : ph h a p (t + 1) j = if j = k then a k else ph h a p t j := by
  by_cases hj : j = k
  · subst hj; simp [ph, e, hc]
  · simp only [hj, if_false]
    unfold ph
    by_cases hh : h j = true
    · have hne : cnt h j ≠ t := by
        intro hjt
        rcases Nat.lt_or_ge j k with h1 | h1
        · have := cnt_lt hh h1; omega
        · have := cnt_lt e (show k < j by omega); omega
      by_cases h1 : cnt h j < t
      · rw [if_pos ⟨hh, by omega⟩, if_pos ⟨hh, h1⟩]
      · rw [if_neg (fun h => by omega), if_neg (fun h => h1 h.2)]
    · rw [if_neg (fun h => hh h.1), if_neg (fun h => hh h.1)]

/-- A call that meets none. -/
theorem ph_idle {h : Nat → Bool} {a p : Nat → Int} {t n : Nat} (hc : cnt h n ≤ t) (j : Nat) (hj : j < n) : ph h a p (t + 1) j = ph h a p t j := by
  unfold ph
  by_cases hh : h j = true
  · have := cnt_lt hh hj
    rw [if_pos ⟨hh, by omega⟩, if_pos ⟨hh, by omega⟩]
  · rw [if_neg (fun h => hh h.1), if_neg (fun h => hh h.1)]

theorem ph_want {h : Nat → Bool} {a p : Nat → Int} {t n : Nat} (hc : cnt h n ≤ t) (j : Nat) (hj : j < n) : ph h a p t j = want h a p j := by
  unfold ph want
  by_cases hh : h j = true
  · have := cnt_lt hh hj
    rw [if_pos ⟨hh, by omega⟩, if_pos hh]
  · rw [if_neg (fun h => hh h.1), if_neg hh]

end Go.Proofs.Qxb6630523a.Pl
