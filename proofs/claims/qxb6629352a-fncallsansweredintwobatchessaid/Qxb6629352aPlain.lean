/-
  Seat b6629352a. THE PLAIN LAW: calls and results by their keys. No Go in sight. 'f j = some k': entry j is a call (a result) of the key k.
-/
namespace Go.Proofs.Qxb6629352a.Pl

section
variable {K : Type} [DecidableEq K]

/-- How many of the first n entries bear the key. -/
def cnt (f : Nat → Option K) (key : K) : Nat → Nat
  | 0 => 0
  | n + 1 => cnt f key n + if f n = some key then 1 else 0

/-- Which ones, rising. -/
def calls (f : Nat → Option K) (key : K) : Nat → List Nat
  | 0 => []
  | n + 1 => calls f key n ++ if f n = some key then [n] else []

theorem cnt_le (f : Nat → Option K) (key : K) : ∀ n, cnt f key n ≤ n
  | 0 => Nat.le_refl _
  | n + 1 => by have := cnt_le f key n; unfold cnt; split <;> omega

theorem cnt_hit {f : Nat → Option K} {key : K} {n : Nat} (h : f n = some key) : cnt f key (n + 1) = cnt f key n + 1 := by simp [cnt, h]
theorem cnt_miss {f : Nat → Option K} {key : K} {n : Nat} (h : f n ≠ some key) : cnt f key (n + 1) = cnt f key n := by simp [cnt, h]

theorem calls_length (f : Nat → Option K) (key : K) : ∀ n, (calls f key n).length = cnt f key n
  | 0 => rfl
  | n + 1 => by
    unfold calls cnt
    rw [List.length_append, calls_length f key n]
    split <;> rfl

theorem calls_hit {f : Nat → Option K} {key : K} {n : Nat} (h : f n = some key) : calls f key (n + 1) = calls f key n ++ [n] := by simp [calls, h]
theorem calls_miss {f : Nat → Option K} {key : K} {n : Nat} (h : f n ≠ some key) : calls f key (n + 1) = calls f key n := by simp [calls, h]

theorem calls_mem {f : Nat → Option K} {key : K} : ∀ n, ∀ j ∈ calls f key n, j < n ∧ f j = some key
  | 0, j, h => by simp [calls] at h
  | n + 1, j, h => by
    unfold calls at h
    rcases List.mem_append.1 h with h | h
    · have := calls_mem n j h; exact ⟨by omega, this.2⟩
    · split at h
      · rename_i e
        simp at h
        subst h
        exact ⟨by omega, e⟩
      · simp at h

/-- The call at place 'so many before it' is it. -/
theorem calls_at {f : Nat → Option K} {key : K} {m : Nat} (h : f m = some key) : ∀ n, m < n → (calls f key n)[cnt f key m]? = some m
  | 0, hm => absurd hm (by omega)
  | n + 1, hm => by
    unfold calls
    by_cases e : m = n
    · subst e
      rw [List.getElem?_append_right (by rw [calls_length]; exact Nat.le_refl _)]
      simp [h, calls_length]
    · have := calls_at h n (by omega)
      rw [List.getElem?_append_left (List.getElem?_eq_some_iff.1 this).1]
      exact this

/-- What the calls' list holds at a place: an entry of the key, with just so many before it. -/
theorem calls_inv {f : Nat → Option K} {key : K} : ∀ n {r j : Nat}, (calls f key n)[r]? = some j → j < n ∧ f j = some key ∧ cnt f key j = r
  | 0, r, j, h => by simp [calls] at h
  | n + 1, r, j, h => by
    unfold calls at h
    by_cases hr : r < (calls f key n).length
    · rw [List.getElem?_append_left hr] at h
      have := calls_inv n h
      exact ⟨by omega, this.2⟩
    · rw [List.getElem?_append_right (by omega)] at h
      split at h
      · rename_i e
        have hr2 : r - (calls f key n).length = 0 := by
          rcases Nat.eq_zero_or_pos (r - (calls f key n).length) with h0 | h0
          · exact h0
          · rw [List.getElem?_eq_none (by simp; omega)] at h
            cases h
        rw [hr2] at h
        simp at h
        subst h
        rw [calls_length] at hr hr2
        exact ⟨by omega, e, by omega⟩
      · simp at h

/-- THE ANSWER of result i: the call of its key with just so many calls before it as results of the key stand before the result; -1 where there is none. -/
def ans (u : Nat → Option K) (R : Nat) (r : Nat → Option K) (i : Nat) : Int :=
  match r i with
  | none => -1
  | some key => match (calls u key R)[cnt r key i]? with
    | none => -1
    | some j => (j : Int)

theorem ans_none {u : Nat → Option K} {R : Nat} {r : Nat → Option K} {i : Nat} (h : r i = none) : ans u R r i = -1 := by simp [ans, h]
theorem ans_hit {u : Nat → Option K} {R : Nat} {r : Nat → Option K} {i : Nat} {key : K} (h : r i = some key) {j : Nat} (hj : (calls u key R)[cnt r key i]? = some j) : ans u R r i = (j : Int) := by simp [ans, h, hj]
theorem ans_miss {u : Nat → Option K} {R : Nat} {r : Nat → Option K} {i : Nat} {key : K} (h : r i = some key) (hj : cnt u key R ≤ cnt r key i) : ans u R r i = -1 := by
  have : (calls u key R)[cnt r key i]? = none := List.getElem?_eq_none (by rw [calls_length]; exact hj)
  simp [ans, h, this]
theorem ans_found {u : Nat → Option K} {R : Nat} {r : Nat → Option K} {i m : Nat} {key : K} (h : r i = some key) (hm : m < R) (hu : u m = some key) (hc : cnt u key m = cnt r key i) : ans u R r i = (m : Int) :=
  ans_hit h (by rw [← hc]; exact calls_at hu R hm)

end
end Go.Proofs.Qxb6629352a.Pl
