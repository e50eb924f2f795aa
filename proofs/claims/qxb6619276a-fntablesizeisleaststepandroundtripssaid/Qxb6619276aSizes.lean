import Derived.Test.Qxb6619276aRows
import Derived.Lib.BitFns
namespace Go.Proofs.Qxb6619276a

/-- The sizes: 4, 5, 6, 7 times a power of two, in their order. -/
def sz (i : Nat) : Nat := (4 + i % 4) * 2 ^ (i / 4)

theorem two_pow_pos (j : Nat) : 1 ≤ 2 ^ j := Nat.one_le_two_pow

theorem sz_eq (q c : Nat) (hc : c < 4) : sz (4 * q + c) = (4 + c) * 2 ^ q := by
  unfold sz
  rw [show (4 * q + c) % 4 = c by omega, show (4 * q + c) / 4 = q by omega]

theorem split4 (i : Nat) : ∃ q c, c < 4 ∧ i = 4 * q + c := ⟨i / 4, i % 4, Nat.mod_lt _ (by omega), by omega⟩

theorem sz_succ (i : Nat) : sz (i + 1) = sz i + 2 ^ (i / 4) := by
  obtain ⟨q, c, hc, rfl⟩ := split4 i
  rw [sz_eq q c hc, show (4 * q + c) / 4 = q by omega]
  by_cases h : c = 3
  · subst h
    rw [show 4 * q + 3 + 1 = 4 * (q + 1) + 0 by omega, sz_eq _ _ (by omega), Nat.pow_succ]
    omega
  · rw [show 4 * q + c + 1 = 4 * q + (c + 1) by omega, sz_eq _ _ (by omega)]
    rw [show 4 + (c + 1) = (4 + c) + 1 by omega, Nat.add_mul, Nat.one_mul]

theorem sz_lt_succ (i : Nat) : sz i < sz (i + 1) := by
  rw [sz_succ]
  have := two_pow_pos (i / 4)
  omega

theorem sz_mono {a b : Nat} (h : a ≤ b) : sz a ≤ sz b := by
  induction b with
  | zero => obtain rfl : a = 0 := by omega
            exact Nat.le_refl _
  | succ b ih =>
    rcases Nat.lt_or_ge a (b + 1) with h' | h'
    · exact Nat.le_trans (ih (by omega)) (Nat.le_of_lt (sz_lt_succ b))
    · obtain rfl : a = b + 1 := by omega
      exact Nat.le_refl _

theorem sz_ge (i : Nat) : 4 + i ≤ sz i := by
  induction i with
  | zero => decide
  | succ i ih => have := sz_lt_succ i; omega

/-- i is the first size that n fills three quarters of at most. -/
def Least (n : Int) (i : Nat) : Prop := 4 * n ≤ 3 * (sz i : Int) ∧ (i = 0 ∨ 3 * (sz (i - 1) : Int) < 4 * n)

theorem Least.unique {n : Int} {a b : Nat} (ha : Least n a) (hb : Least n b) : a = b := by
  obtain ⟨h1, h2⟩ := ha
  obtain ⟨h3, h4⟩ := hb
  rcases Nat.lt_trichotomy a b with h | h | h
  · rcases h4 with h4 | h4
    · omega
    · have := sz_mono (show a ≤ b - 1 by omega)
      omega
  · exact h
  · rcases h2 with h2 | h2
    · omega
    · have := sz_mono (show b ≤ a - 1 by omega)
      omega

theorem sz_zero : sz 0 = 4 := rfl
theorem sz_one : sz 1 = 5 := rfl
theorem sz_two : sz 2 = 6 := rfl

theorem not_one {n : Int} (h : Least n 1) : False := by
  obtain ⟨h1, h2⟩ := h
  rcases h2 with h2 | h2
  · omega
  · rw [show 1 - 1 = 0 from rfl, sz_zero] at h2
    rw [sz_one] at h1
    omega

/-- A power of two is one, or even. -/
theorem two_pow_cases (q : Nat) : (q = 0 ∧ 2 ^ q = 1) ∨ ∃ p, 1 ≤ p ∧ q ≠ 0 ∧ 2 ^ q = 2 * p ∧ p = 2 ^ (q - 1) := by
  cases q with
  | zero => exact .inl ⟨rfl, rfl⟩
  | succ q => exact .inr ⟨2 ^ q, two_pow_pos q, by omega, by rw [Nat.pow_succ]; omega, rfl⟩

/-- Past the least size more than three fifths are filled. -/
theorem Least.fills {n : Int} {i : Nat} (h : Least n i) (hi : i ≠ 0) : 3 * (sz i : Int) < 5 * n := by
  obtain ⟨_, h2⟩ := h
  have h2 : 3 * (sz (i - 1) : Int) < 4 * n := by rcases h2 with h2 | h2 <;> omega
  obtain ⟨k, rfl⟩ : ∃ k, i = k + 1 := ⟨i - 1, by omega⟩
  simp only [Nat.add_sub_cancel] at h2
  rw [sz_succ]
  obtain ⟨q, c, hc, rfl⟩ := split4 k
  rw [sz_eq q c hc] at h2 ⊢
  rw [show (4 * q + c) / 4 = q by omega]
  have := two_pow_pos q
  generalize 2 ^ q = P at *
  match c, hc with
  | 0, _ => omega
  | 1, _ => omega
  | 2, _ => omega
  | 3, _ => omega

/-- Three quarters of a size, rounded down, get that size again (5 is never given). -/
theorem Least.full {i : Nat} (hi : i ≠ 1) : Least (3 * (sz i : Int) / 4) i := by
  refine ⟨by omega, ?_⟩
  by_cases h0 : i = 0
  · exact .inl h0
  right
  obtain ⟨k, rfl⟩ : ∃ k, i = k + 1 := ⟨i - 1, by omega⟩
  simp only [Nat.add_sub_cancel]
  rw [sz_succ]
  obtain ⟨q, c, hc, rfl⟩ := split4 k
  rw [sz_eq q c hc, show (4 * q + c) / 4 = q by omega]
  rcases two_pow_cases q with ⟨hq, e⟩ | ⟨p, hp, hq, e, _⟩
  · rw [e]
    match c, hc with
    | 0, _ => omega
    | 1, _ => omega
    | 2, _ => omega
    | 3, _ => omega
  · rw [e]
    match c, hc with
    | 0, _ => omega
    | 1, _ => omega
    | 2, _ => omega
    | 3, _ => omega

/-- One key more gets the next size (from 4: 6). -/
theorem Least.next {i : Nat} (hi : i ≠ 1) : Least (3 * (sz i : Int) / 4 + 1) (if i = 0 then 2 else i + 1) := by
  by_cases h0 : i = 0
  · subst h0
    rw [if_pos rfl]
    refine ⟨?_, .inr ?_⟩
    · rw [sz_two, sz_zero]; decide
    · rw [show 2 - 1 = 1 from rfl, sz_one, sz_zero]; decide
  · rw [if_neg h0]
    refine ⟨?_, .inr ?_⟩
    · rw [sz_succ]
      obtain ⟨q, c, hc, rfl⟩ := split4 i
      rw [sz_eq q c hc, show (4 * q + c) / 4 = q by omega]
      rcases two_pow_cases q with ⟨hq, e⟩ | ⟨p, hp, hq, e, _⟩
      · rw [e]
        match c, hc with
        | 0, _ => omega
        | 1, _ => omega
        | 2, _ => omega
        | 3, _ => omega
      · rw [e]
        match c, hc with
        | 0, _ => omega
        | 1, _ => omega
        | 2, _ => omega
        | 3, _ => omega
    · rw [Nat.add_sub_cancel]
      omega
end Go.Proofs.Qxb6619276a
