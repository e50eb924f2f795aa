import Derived.Test.Qxb6619252aLess
namespace Go.Proofs.Qxb6619252a
open Go.Sort

/-! Figures as words: the sign, the rung, and the exact number that they stand for, in units of the least place. -/

/-- The lower bits of a word. -/
def rung (x : Nat) : Nat := x % 9223372036854775808
/-- The sign bit. -/
def neg (x : Nat) : Bool := x / 9223372036854775808 % 2 == 1
def mant (r : Nat) : Nat := if r < 4503599627370496 then r else 4503599627370496 + r % 4503599627370496
def expo (r : Nat) : Nat := if r < 4503599627370496 then 0 else r / 4503599627370496 - 1
/-- The magnitude of a rung, in units of the least place. -/
def mag (r : Nat) : Nat := mant r * 2 ^ expo r

theorem lit_binade : Ieee.double.binade = 4503599627370496 := by decide
theorem lit_inf : Ieee.double.infRung = 9218868437227405312 := by decide
theorem lit_sign : Ieee.double.signWeight = 9223372036854775808 := by decide
theorem lit_least : Ieee.double.leastPlace = -1074 := by decide

theorem read_num {x : Nat} (h : rung x < 9218868437227405312) : Ieee.double.read x = .number (neg x) (mant (rung x)) (-1074 + (expo (rung x) : Int)) := by
  unfold Ieee.Format.read
  simp only [lit_binade, lit_inf, lit_sign, lit_least]
  show (if rung x < 4503599627370496 then Ieee.Datum.number (neg x) (rung x) (-1074) else if rung x < 9218868437227405312 then _ else _) = _
  by_cases hb : rung x < 4503599627370496
  · rw [if_pos hb]
    simp [mant, expo, hb]
  · rw [if_neg hb, if_pos h]
    simp only [mant, expo, if_neg hb]
    rfl

theorem read_inf {x : Nat} (h : rung x = 9218868437227405312) : Ieee.double.read x = .infinity (neg x) := by
  unfold Ieee.Format.read
  simp only [lit_binade, lit_inf, lit_sign, lit_least]
  show (if rung x < 4503599627370496 then Ieee.Datum.number (neg x) (rung x) (-1074) else if rung x < 9218868437227405312 then _ else if rung x = 9218868437227405312 then Ieee.Datum.infinity (neg x) else _) = _
  rw [if_neg (by omega), if_neg (by omega), if_pos h]

theorem read_nan {x : Nat} (h : 9218868437227405312 < rung x) : ∃ s t, Ieee.double.read x = .nan s t := by
  unfold Ieee.Format.read
  simp only [lit_binade, lit_inf, lit_sign, lit_least]
  refine ⟨neg x, rung x - 9218868437227405312, ?_⟩
  show (if rung x < 4503599627370496 then Ieee.Datum.number (neg x) (rung x) (-1074) else if rung x < 9218868437227405312 then _ else if rung x = 9218868437227405312 then Ieee.Datum.infinity (neg x) else .nan (neg x) (rung x - 9218868437227405312)) = _
  rw [if_neg (by omega), if_neg (by omega), if_neg (by omega)]

/-! The magnitudes grow with the rung. -/
theorem mag_lt_succ (r : Nat) : mag r < mag (r + 1) := by
  unfold mag mant expo
  by_cases h : r + 1 < 4503599627370496
  · rw [if_pos h, if_pos h, if_pos (by omega), if_pos (by omega)]
    simp
  · rw [if_neg h, if_neg h]
    by_cases h' : r < 4503599627370496
    · obtain rfl : r = 4503599627370495 := by omega
      decide
    · rw [if_neg h', if_neg h']
      have hp : 0 < 2 ^ (r / 4503599627370496 - 1) := Nat.two_pow_pos _
      by_cases hm : r % 4503599627370496 + 1 = 4503599627370496
      · rw [show (r + 1) % 4503599627370496 = 0 by omega, show (r + 1) / 4503599627370496 - 1 = (r / 4503599627370496 - 1) + 1 by omega, Nat.pow_succ]
        generalize 2 ^ (r / 4503599627370496 - 1) = P at hp
        have e : (4503599627370496 + 0) * (P * 2) = 9007199254740992 * P := by omega
        rw [e]
        exact Nat.mul_lt_mul_of_pos_right (by omega) hp
      · rw [show (r + 1) % 4503599627370496 = r % 4503599627370496 + 1 by omega, show (r + 1) / 4503599627370496 = r / 4503599627370496 by omega]
        exact Nat.mul_lt_mul_of_pos_right (by omega) hp

theorem mag_mono {a b : Nat} (h : a < b) : mag a < mag b := by
  induction b with
  | zero => omega
  | succ b ih =>
    rcases Nat.lt_or_ge a b with h' | h'
    · exact Nat.lt_trans (ih h') (mag_lt_succ b)
    · obtain rfl : a = b := by omega
      exact mag_lt_succ a

theorem mag_inj {a b : Nat} (h : mag a = mag b) : a = b := by
  rcases Nat.lt_trichotomy a b with h' | h' | h'
  · have := mag_mono h'; omega
  · exact h'
  · have := mag_mono h'; omega

theorem mag_zero : mag 0 = 0 := by decide

/-- The exact number, in units of the least place (an infinity lies beyond every number). -/
def key (x : Nat) : Int := if neg x then -(mag (rung x) : Int) else (mag (rung x) : Int)

/-- No number: its rung lies beyond infinity's. -/
def isNum (x : Nat) : Prop := rung x ≤ 9218868437227405312

theorem compare_scale (a b : Int) (c : Nat) (hc : 0 < c) : compare (a * c) (b * c) = compare a b := by
  rcases Int.lt_trichotomy a b with h | h | h
  · rw [Int.compare_eq_lt.2 h, Int.compare_eq_lt.2 (Int.mul_lt_mul_of_pos_right h (by omega))]
  · subst h
    rw [Int.compare_eq_eq.2 rfl, Int.compare_eq_eq.2 rfl]
  · rw [Int.compare_eq_gt.2 h, Int.compare_eq_gt.2 (Int.mul_lt_mul_of_pos_right h (by omega))]

theorem signed_eq (s : Bool) (m e : Nat) : Ieee.signed s m e = (if s then -((m * 2 ^ e : Nat) : Int) else ((m * 2 ^ e : Nat) : Int)) := by
  unfold Ieee.signed
  rw [Nat.shiftLeft_eq]

theorem signed_scale (s : Bool) (m e k : Nat) : Ieee.signed s m e * (2 ^ k : Nat) = (if s then -((m * 2 ^ (e + k) : Nat) : Int) else ((m * 2 ^ (e + k) : Nat) : Int)) := by
  rw [signed_eq, Nat.pow_add, ← Nat.mul_assoc]
  cases s
  · simp
  · simp [Int.neg_mul]

theorem order_num {x y : Nat} (hx : isNum x) (hy : isNum y) : ord x y = some (compare (key x) (key y)) := by
  unfold isNum at hx hy
  unfold ord Ieee.Format.order
  have big : ∀ r, r < 9218868437227405312 → mag r < mag 9218868437227405312 := fun r h => mag_mono h
  rcases Nat.lt_or_eq_of_le hx with hx' | hx' <;> rcases Nat.lt_or_eq_of_le hy with hy' | hy'
  · rw [read_num hx', read_num hy']
    unfold Ieee.Datum.order
    simp only
    congr 1
    obtain ⟨e1, h1⟩ : ∃ e, e = expo (rung x) := ⟨_, rfl⟩
    obtain ⟨e2, h2⟩ : ∃ e, e = expo (rung y) := ⟨_, rfl⟩
    have hk1 : key x = if neg x then -((mant (rung x) * 2 ^ e1 : Nat) : Int) else ((mant (rung x) * 2 ^ e1 : Nat) : Int) := by unfold key mag; rw [h1]
    have hk2 : key y = if neg y then -((mant (rung y) * 2 ^ e2 : Nat) : Int) else ((mant (rung y) * 2 ^ e2 : Nat) : Int) := by unfold key mag; rw [h2]
    rw [hk1, hk2, ← h1, ← h2]
    obtain ⟨d1, g1⟩ : ∃ d, d = (-1074 + (e1 : Int) - min (-1074 + (e1 : Int)) (-1074 + (e2 : Int))).toNat := ⟨_, rfl⟩
    obtain ⟨d2, g2⟩ : ∃ d, d = (-1074 + (e2 : Int) - min (-1074 + (e1 : Int)) (-1074 + (e2 : Int))).toNat := ⟨_, rfl⟩
    rw [← g1, ← g2]
    have a1 : e1 = d1 + min e1 e2 := by omega
    have a2 : e2 = d2 + min e1 e2 := by omega
    rw [← compare_scale _ _ (2 ^ min e1 e2) (Nat.two_pow_pos _), signed_scale, signed_scale, ← a1, ← a2]
  · rw [read_num hx', read_inf hy']
    unfold Ieee.Datum.order
    have := big _ hx'
    unfold key
    rw [hy']
    generalize mag 9218868437227405312 = Q at *
    congr 1
    cases neg y
    · simp only [Bool.false_eq_true, if_false]
      rw [Int.compare_eq_lt.2 (by split <;> omega)]
    · simp only [if_true]
      rw [Int.compare_eq_gt.2 (by split <;> omega)]
  · rw [read_inf hx', read_num hy']
    unfold Ieee.Datum.order
    have := big _ hy'
    unfold key
    rw [hx']
    generalize mag 9218868437227405312 = Q at *
    congr 1
    cases neg x
    · simp only [Bool.false_eq_true, if_false]
      rw [Int.compare_eq_gt.2 (by split <;> omega)]
    · simp only [if_true]
      rw [Int.compare_eq_lt.2 (by split <;> omega)]
  · rw [read_inf hx', read_inf hy']
    unfold Ieee.Datum.order
    have hq : 0 < mag 9218868437227405312 := by have := big 0 (by omega); omega
    unfold key
    rw [hx', hy']
    generalize mag 9218868437227405312 = Q at *
    congr 1
    cases neg x <;> cases neg y
    · simp
    · simp only [Bool.false_eq_true, if_false, if_true]
      rw [Int.compare_eq_gt.2 (by omega)]; rfl
    · simp only [Bool.false_eq_true, if_false, if_true]
      rw [Int.compare_eq_lt.2 (by omega)]; rfl
    · simp

theorem order_nan {x y : Nat} (h : ¬ isNum x ∨ ¬ isNum y) : ord x y = none := by
  unfold isNum at h
  unfold ord Ieee.Format.order
  by_cases hx : rung x ≤ 9218868437227405312
  · obtain ⟨s, t, e⟩ := read_nan (x := y) (by omega)
    rw [e]
    cases Ieee.double.read x <;> rfl
  · obtain ⟨s, t, e⟩ := read_nan (x := x) (by omega)
    rw [e]
    rfl

theorem nanF_no {x : Nat} (h : isNum x) : nanF x = false := by
  unfold nanF
  rw [order_num h h, Int.compare_eq_eq.2 rfl]
  rfl

theorem nanF_yes {x : Nat} (h : ¬ isNum x) : nanF x = true := by
  unfold nanF
  rw [order_nan (.inl h)]
  rfl

theorem ltF_iff (x y : Nat) : ltF x y = true ↔ (¬ isNum x ∧ isNum y) ∨ (isNum x ∧ isNum y ∧ key x < key y) := by
  unfold ltF lssF
  by_cases hx : isNum x <;> by_cases hy : isNum y
  · rw [order_num hx hy, nanF_no hx, nanF_no hy]
    simp [hx, hy, Int.compare_eq_lt]
  · rw [order_nan (.inr hy), nanF_no hx, nanF_yes hy]
    simp [hx, hy]
  · rw [order_nan (.inl hx), nanF_yes hx, nanF_no hy]
    simp [hx, hy]
  · rw [order_nan (.inl hx), nanF_yes hx, nanF_yes hy]
    simp [hx, hy]

theorem ltF_false (x y : Nat) : ltF x y = false ↔ ¬ isNum y ∨ (isNum x ∧ isNum y ∧ key y ≤ key x) := by
  have h := ltF_iff x y
  by_cases hx : isNum x <;> by_cases hy : isNum y <;> cases hl : ltF x y <;> simp_all <;> omega

theorem swo_ltF : SWO ltF where
  irrefl x := by
    rw [ltF_false]
    by_cases h : isNum x
    · exact .inr ⟨h, h, Int.le_refl _⟩
    · exact .inl h
  trans x y z h1 h2 := by
    rw [ltF_iff] at *
    by_cases hx : isNum x <;> by_cases hy : isNum y <;> by_cases hz : isNum z <;> simp_all <;> omega
  ntrans x y z h1 h2 := by
    rw [ltF_false] at *
    by_cases hx : isNum x <;> by_cases hy : isNum y <;> by_cases hz : isNum z <;> simp_all <;> omega
end Go.Proofs.Qxb6619252a
