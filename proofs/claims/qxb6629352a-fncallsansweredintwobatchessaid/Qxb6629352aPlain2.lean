/-
  Seat b6629352a. THE PLAIN LAWS of the second statement: what an answer is; that no call is answered twice; that two batches answer as one. No Go in sight.
-/
import Derived.Test.Qxb6629352aPlain
namespace Go.Proofs.Qxb6629352a.Pl

section
variable {K : Type} [DecidableEq K]

theorem cnt_mono (f : Nat → Option K) (key : K) {m : Nat} : ∀ n, m ≤ n → cnt f key m ≤ cnt f key n
  | 0, h => by obtain rfl : m = 0 := by omega
               exact Nat.le_refl _
  | n + 1, h => by
    by_cases e : m = n + 1
    · subst e; exact Nat.le_refl _
    · have := cnt_mono f key (m := m) n (by omega)
      have h1 : cnt f key n ≤ cnt f key (n + 1) := by rw [cnt]; omega
      omega

theorem cnt_lt {f : Nat → Option K} {key : K} {m n : Nat} (h : f m = some key) (hmn : m < n) : cnt f key m < cnt f key n := by
  have h1 := cnt_hit h
  have h2 := cnt_mono f key n (show m + 1 ≤ n by omega)
  omega

/-- Every count below the total is met by an entry of the key. -/
theorem cnt_onto {f : Nat → Option K} {key : K} : ∀ n x, x < cnt f key n → ∃ i, i < n ∧ f i = some key ∧ cnt f key i = x
  | 0, x, h => by simp [cnt] at h
  | n + 1, x, h => by
    by_cases e : f n = some key
    · rw [cnt_hit e] at h
      by_cases hx : x = cnt f key n
      · exact ⟨n, by omega, e, hx.symm⟩
      · obtain ⟨i, hi, h1, h2⟩ := cnt_onto (f := f) (key := key) n x (by omega)
        exact ⟨i, by omega, h1, h2⟩
    · rw [cnt_miss e] at h
      obtain ⟨i, hi, h1, h2⟩ := cnt_onto n x h
      exact ⟨i, by omega, h1, h2⟩

variable {u r : Nat → Option K} {R : Nat}

/-- AN ANSWER, or none. -/
theorem ans_cases (u : Nat → Option K) (R : Nat) (r : Nat → Option K) (i : Nat) :
    (ans u R r i = -1 ∧ (r i = none ∨ ∃ key, r i = some key ∧ cnt u key R ≤ cnt r key i)) ∨
    ∃ key j, r i = some key ∧ cnt r key i < cnt u key R ∧ ans u R r i = ((j : Nat) : Int) ∧ j < R ∧ u j = some key ∧ cnt u key j = cnt r key i := by
  cases hr : r i with
  | none => exact Or.inl ⟨ans_none hr, Or.inl rfl⟩
  | some key =>
    by_cases hc : cnt u key R ≤ cnt r key i
    · exact Or.inl ⟨ans_miss hr hc, Or.inr ⟨key, rfl, hc⟩⟩
    · have hl : cnt r key i < (calls u key R).length := by rw [calls_length]; omega
      have hj : (calls u key R)[cnt r key i]? = some ((calls u key R)[cnt r key i]'hl) := List.getElem?_eq_getElem hl
      obtain ⟨h1, h2, h3⟩ := calls_inv R hj
      exact Or.inr ⟨key, _, rfl, by omega, ans_hit hr hj, h1, h2, h3⟩

/-- No call is answered twice. -/
theorem ans_once {i j : Nat} (hij : j < i) (hi : ans u R r i ≠ -1) : ans u R r j ≠ ans u R r i := by
  rcases ans_cases u R r i with ⟨h, _⟩ | ⟨key, a, h1, _, h3, h4, h5, h6⟩
  · exact absurd h hi
  · rcases ans_cases u R r j with ⟨h, _⟩ | ⟨key', a', g1, _, g3, g4, g5, g6⟩
    · rw [h]; exact fun e => hi e.symm
    · intro e
      rw [h3, g3] at e
      obtain rfl : a' = a := by omega
      rw [h5] at g5
      obtain rfl : key = key' := by injection g5
      have := cnt_lt g1 hij
      omega

/-- Is call j taken by one of the first c results? -/
def taken (u : Nat → Option K) (R : Nat) (r : Nat → Option K) (c j : Nat) : Prop := ∃ i, i < c ∧ ans u R r i = ((j : Nat) : Int)

theorem taken_iff {c j : Nat} {key : K} (hj : j < R) (hu : u j = some key) : taken u R r c j ↔ cnt u key j < cnt r key c := by
  constructor
  · rintro ⟨i, hi, h⟩
    rcases ans_cases u R r i with ⟨h', _⟩ | ⟨key', a, h1, _, h3, h4, h5, h6⟩
    · rw [h'] at h; omega
    · rw [h3] at h
      obtain rfl : a = j := by omega
      rw [hu] at h5
      obtain rfl : key = key' := by injection h5
      rw [h6]; exact cnt_lt h1 hi
  · intro h
    obtain ⟨i, hi, h1, h2⟩ := cnt_onto c _ h
    exact ⟨i, hi, ans_found h1 hj hu h2.symm⟩

/-- The calls that the first batch has left. -/
theorem calls_left {c : Nat} {u2 : Nat → Option K} (h2 : ∀ j, j < R → (taken u R r c j → u2 j = none) ∧ (¬ taken u R r c j → u2 j = u j)) (key : K) :
    ∀ n, n ≤ R → calls u2 key n = (calls u key n).drop (cnt r key c)
  | 0, _ => by simp [calls]
  | n + 1, hn => by
    have ih := calls_left h2 key n (by omega)
    obtain ⟨ht, hnt⟩ := h2 n (by omega)
    by_cases e : u n = some key
    · have hiff := taken_iff (r := r) (c := c) (show n < R by omega) e
      rw [calls_hit e]
      by_cases hc : cnt u key n < cnt r key c
      · have : u2 n = none := ht (hiff.2 hc)
        rw [calls_miss (by rw [this]; simp), ih, List.drop_eq_nil_of_le (by rw [calls_length]; omega), List.drop_eq_nil_of_le (by simp [calls_length]; omega)]
      · have : u2 n = some key := by rw [hnt (fun h => hc (hiff.1 h))]; exact e
        rw [calls_hit this, ih, List.drop_append_of_le_length (by rw [calls_length]; omega)]
    · rw [calls_miss e]
      have : u2 n ≠ some key := by
        by_cases h : taken u R r c n
        · rw [ht h]; simp
        · rw [hnt h]; exact e
      rw [calls_miss this, ih]

theorem cnt_shift (r : Nat → Option K) (key : K) (c : Nat) : ∀ i, cnt r key (c + i) = cnt r key c + cnt (fun j => r (c + j)) key i
  | 0 => rfl
  | i + 1 => by
    have := cnt_shift r key c i
    rw [show c + (i + 1) = (c + i) + 1 from rfl]
    by_cases e : r (c + i) = some key
    · rw [cnt_hit e, cnt_hit (f := fun j => r (c + j)) e, this]; omega
    · rw [cnt_miss e, cnt_miss (f := fun j => r (c + j)) e, this]

/-- TWO BATCHES ANSWER AS ONE. -/
theorem ans_batch {c i : Nat} {u2 : Nat → Option K} (h2 : ∀ j, j < R → (taken u R r c j → u2 j = none) ∧ (¬ taken u R r c j → u2 j = u j)) :
    ans u2 R (fun j => r (c + j)) i = ans u R r (c + i) := by
  cases hr : r (c + i) with
  | none => rw [ans_none hr, ans_none (r := fun j => r (c + j)) hr]
  | some key =>
    have e : (calls u2 key R)[cnt (fun j => r (c + j)) key i]? = (calls u key R)[cnt r key (c + i)]? := by
      rw [calls_left h2 key R (Nat.le_refl _), List.getElem?_drop, cnt_shift]
    simp only [ans, hr, e]

theorem taken_succ {c j : Nat} : taken u R r (c + 1) j ↔ taken u R r c j ∨ ans u R r c = ((j : Nat) : Int) := by
  constructor
  · rintro ⟨i, hi, h⟩
    by_cases e : i = c
    · subst e; exact Or.inr h
    · exact Or.inl ⟨i, by omega, h⟩
  · rintro (⟨i, hi, h⟩ | h)
    · exact ⟨i, by omega, h⟩
    · exact ⟨c, by omega, h⟩

theorem taken_zero {j : Nat} : ¬ taken u R r 0 j := fun ⟨i, h, _⟩ => absurd h (by omega)

end
end Go.Proofs.Qxb6629352a.Pl
