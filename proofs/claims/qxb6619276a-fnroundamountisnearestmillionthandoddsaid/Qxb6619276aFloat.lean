import Derived.Test.Qxb6619276aRows
import Derived.WalkKit
import Derived.WalkLawsBesides
import Derived.Laws.FloatArith
namespace Go.Proofs.Qxb6619276a

/-- How two figures stand to each other. -/
def ord (x y : Nat) : Option Ordering := Ieee.double.order x y

/-! Figures as words: the sign, the rung, and the exact number that they stand for, in units of the least place. -/

/-- The lower bits of a word. -/
def rung (x : Nat) : Nat := x % 9223372036854775808
/-- The sign bit. -/
def neg (x : Nat) : Bool := x / 9223372036854775808 % 2 == 1
def mant (r : Nat) : Nat := if r < 4503599627370496 then r else 4503599627370496 + r % 4503599627370496
def expo (r : Nat) : Nat := if r < 4503599627370496 then 0 else r / 4503599627370496 - 1
/-- The magnitude of a rung, in units of the least place. -/
def mag (r : Nat) : Nat := mant r * 2 ^ expo r

theorem lit_binade : Ieee.double.binade = 4503599627370496 := by decide
theorem lit_inf : Ieee.double.infRung = 9218868437227405312 := by decide
theorem lit_sign : Ieee.double.signWeight = 9223372036854775808 := by decide
theorem lit_least : Ieee.double.leastPlace = -1074 := by decide

theorem read_num {x : Nat} (h : rung x < 9218868437227405312) : Ieee.double.read x = .number (neg x) (mant (rung x)) (-1074 + (expo (rung x) : Int)) := by
  unfold Ieee.Format.read
  simp only [lit_binade, lit_inf, lit_sign, lit_least]
  show (if rung x < 4503599627370496 then Ieee.Datum.number (neg x) (rung x) (-1074) else if rung x < 9218868437227405312 then _ else _) = _
  by_cases hb : rung x < 4503599627370496
  · rw [if_pos hb]
    simp [mant, expo, hb]
  · rw [if_neg hb, if_pos h]
    simp only [mant, expo, if_neg hb]
    rfl

theorem read_inf {x : Nat} (h : rung x = 9218868437227405312) : Ieee.double.read x = .infinity (neg x) := by
  unfold Ieee.Format.read
  simp only [lit_binade, lit_inf, lit_sign, lit_least]
  show (if rung x < 4503599627370496 then Ieee.Datum.number (neg x) (rung x) (-1074) else if rung x < 9218868437227405312 then _ else if rung x = 9218868437227405312 then Ieee.Datum.infinity (neg x) else _) = _
  rw [if_neg (by omega), if_neg (by omega), if_pos h]

theorem read_nan {x : Nat} (h : 9218868437227405312 < rung x) : ∃ s t, Ieee.double.read x = .nan s t := by
  unfold Ieee.Format.read
  simp only [lit_binade, lit_inf, lit_sign, lit_least]
  refine ⟨neg x, rung x - 9218868437227405312, ?_⟩
  show (if rung x < 4503599627370496 then Ieee.Datum.number (neg x) (rung x) (-1074) else if rung x < 9218868437227405312 then _ else if rung x = 9218868437227405312 then Ieee.Datum.infinity (neg x) else .nan (neg x) (rung x - 9218868437227405312)) = _
  rw [if_neg (by omega), if_neg (by omega), if_neg (by omega)]

/-! The magnitudes grow with the rung. -/
theorem mag_lt_succ (r : Nat) : mag r < mag (r + 1) := by
  unfold mag mant expo
  by_cases h : r + 1 < 4503599627370496
  · rw [if_pos h, if_pos h, if_pos (by omega), if_pos (by omega)]
    simp
  · rw [if_neg h, if_neg h]
    by_cases h' : r < 4503599627370496
    · obtain rfl : r = 4503599627370495 := by omega
      decide
    · rw [if_neg h', if_neg h']
      have hp : 0 < 2 ^ (r / 4503599627370496 - 1) := Nat.two_pow_pos _
      by_cases hm : r % 4503599627370496 + 1 = 4503599627370496
      · rw [show (r + 1) % 4503599627370496 = 0 by omega, show (r + 1) / 4503599627370496 - 1 = (r / 4503599627370496 - 1) + 1 by omega, Nat.pow_succ]
        generalize 2 ^ (r / 4503599627370496 - 1) = P at hp
        have e : (4503599627370496 + 0) * (P * 2) = 9007199254740992 * P := by omega
        rw [e]
        exact Nat.mul_lt_mul_of_pos_right (by omega) hp
      · rw [show (r + 1) % 4503599627370496 = r % 4503599627370496 + 1 by omega, show (r + 1) / 4503599627370496 = r / 4503599627370496 by omega]
        exact Nat.mul_lt_mul_of_pos_right (by omega) hp

theorem mag_mono {a b : Nat} (h : a < b) : mag a < mag b := by
  induction b with
  | zero => omega
  | succ b ih =>
    rcases Nat.lt_or_ge a b with h' | h'
    · exact Nat.lt_trans (ih h') (mag_lt_succ b)
    · obtain rfl : a = b := by omega
      exact mag_lt_succ a

theorem mag_inj {a b : Nat} (h : mag a = mag b) : a = b := by
  rcases Nat.lt_trichotomy a b with h' | h' | h'
  · have := mag_mono h'; omega
  · exact h'
  · have := mag_mono h'; omega

theorem mag_zero : mag 0 = 0 := by decide

/-- The exact number, in units of the least place (an infinity lies beyond every number). -/
def key (x : Nat) : Int := if neg x then -(mag (rung x) : Int) else (mag (rung x) : Int)

/-- No number: its rung lies beyond infinity's. -/
def isNum (x : Nat) : Prop := rung x ≤ 9218868437227405312

theorem compare_scale (a b : Int) (c : Nat) (hc : 0 < c) : compare (a * c) (b * c) = compare a b := by
  rcases Int.lt_trichotomy a b with h | h | h
  · rw [Int.compare_eq_lt.2 h, Int.compare_eq_lt.2 (Int.mul_lt_mul_of_pos_right h (by omega))]
  · subst h
    rw [Int.compare_eq_eq.2 rfl, Int.compare_eq_eq.2 rfl]
  · rw [Int.compare_eq_gt.2 h, Int.compare_eq_gt.2 (Int.mul_lt_mul_of_pos_right h (by omega))]

theorem signed_eq (s : Bool) (m e : Nat) : Ieee.signed s m e = (if s then -((m * 2 ^ e : Nat) : Int) else ((m * 2 ^ e : Nat) : Int)) := by
  unfold Ieee.signed
  rw [Nat.shiftLeft_eq]

theorem signed_scale (s : Bool) (m e k : Nat) : Ieee.signed s m e * (2 ^ k : Nat) = (if s then -((m * 2 ^ (e + k) : Nat) : Int) else ((m * 2 ^ (e + k) : Nat) : Int)) := by
  rw [signed_eq, Nat.pow_add, ← Nat.mul_assoc]
  cases s
  · simp
  · simp [Int.neg_mul]

theorem order_num {x y : Nat} (hx : isNum x) (hy : isNum y) : ord x y = some (compare (key x) (key y)) := by
  unfold isNum at hx hy
  unfold ord Ieee.Format.order
  have big : ∀ r, r < 9218868437227405312 → mag r < mag 9218868437227405312 := fun r h => mag_mono h
  rcases Nat.lt_or_eq_of_le hx with hx' | hx' <;> rcases Nat.lt_or_eq_of_le hy with hy' | hy'
  · rw [read_num hx', read_num hy']
    unfold Ieee.Datum.order
    simp only
    congr 1
    obtain ⟨e1, h1⟩ : ∃ e, e = expo (rung x) := ⟨_, rfl⟩
    obtain ⟨e2, h2⟩ : ∃ e, e = expo (rung y) := ⟨_, rfl⟩
    have hk1 : key x = if neg x then -((mant (rung x) * 2 ^ e1 : Nat) : Int) else ((mant (rung x) * 2 ^ e1 : Nat) : Int) := by unfold key mag; rw [h1]
    have hk2 : key y = if neg y then -((mant (rung y) * 2 ^ e2 : Nat) : Int) else ((mant (rung y) * 2 ^ e2 : Nat) : Int) := by unfold key mag; rw [h2]
    rw [hk1, hk2, ← h1, ← h2]
    obtain ⟨d1, g1⟩ : ∃ d, d = (-1074 + (e1 : Int) - min (-1074 + (e1 : Int)) (-1074 + (e2 : Int))).toNat := ⟨_, rfl⟩
    obtain ⟨d2, g2⟩ : ∃ d, d = (-1074 + (e2 : Int) - min (-1074 + (e1 : Int)) (-1074 + (e2 : Int))).toNat := ⟨_, rfl⟩
    rw [← g1, ← g2]
    have a1 : e1 = d1 + min e1 e2 := by omega
    have a2 : e2 = d2 + min e1 e2 := by omega
    rw [← compare_scale _ _ (2 ^ min e1 e2) (Nat.two_pow_pos _), signed_scale, signed_scale, ← a1, ← a2]
  · rw [read_num hx', read_inf hy']
    unfold Ieee.Datum.order
    have := big _ hx'
    unfold key
    rw [hy']
    generalize mag 9218868437227405312 = Q at *
    congr 1
    cases neg y
    · simp only [Bool.false_eq_true, if_false]
      rw [Int.compare_eq_lt.2 (by split <;> omega)]
    · simp only [if_true]
      rw [Int.compare_eq_gt.2 (by split <;> omega)]
  · rw [read_inf hx', read_num hy']
    unfold Ieee.Datum.order
    have := big _ hy'
    unfold key
    rw [hx']
    generalize mag 9218868437227405312 = Q at *
    congr 1
    cases neg x
    · simp only [Bool.false_eq_true, if_false]
      rw [Int.compare_eq_gt.2 (by split <;> omega)]
    · simp only [if_true]
      rw [Int.compare_eq_lt.2 (by split <;> omega)]
  · rw [read_inf hx', read_inf hy']
    unfold Ieee.Datum.order
    have hq : 0 < mag 9218868437227405312 := by have := big 0 (by omega); omega
    unfold key
    rw [hx', hy']
    generalize mag 9218868437227405312 = Q at *
    congr 1
    cases neg x <;> cases neg y
    · simp
    · simp only [Bool.false_eq_true, if_false, if_true]
      rw [Int.compare_eq_gt.2 (by omega)]; rfl
    · simp only [Bool.false_eq_true, if_false, if_true]
      rw [Int.compare_eq_lt.2 (by omega)]; rfl
    · simp

theorem order_nan {x y : Nat} (h : ¬ isNum x ∨ ¬ isNum y) : ord x y = none := by
  unfold isNum at h
  unfold ord Ieee.Format.order
  by_cases hx : rung x ≤ 9218868437227405312
  · obtain ⟨s, t, e⟩ := read_nan (x := y) (by omega)
    rw [e]
    cases Ieee.double.read x <;> rfl
  · obtain ⟨s, t, e⟩ := read_nan (x := x) (by omega)
    rw [e]
    rfl

theorem rung_word (g : Bool) {R : Nat} (h : R < 9223372036854775808) : rung (Ieee.double.word g R) = R ∧ neg (Ieee.double.word g R) = g := by
  unfold Ieee.Format.word rung neg
  rw [lit_sign]
  cases g
  · simp only [Bool.false_eq_true, if_false]
    refine ⟨by omega, ?_⟩
    have : R / 9223372036854775808 = 0 := by omega
    rw [this]; rfl
  · simp only [if_true]
    refine ⟨by omega, ?_⟩
    have : (9223372036854775808 + R) / 9223372036854775808 = 1 := by omega
    rw [this]; rfl

/-- The model's minus. -/
def negF (x : Nat) : Nat := x ^^^ 9223372036854775808

theorem rung_negF (x : Nat) : rung (negF x) = rung x := by
  unfold rung negF
  have h := Nat.xor_mod_two_pow (a := x) (b := 9223372036854775808) (n := 63)
  rw [show (2 : Nat) ^ 63 = 9223372036854775808 from rfl] at h
  rw [h]
  simp

theorem neg_negF (x : Nat) : neg (negF x) = !neg x := by
  unfold neg negF
  have h := Nat.xor_div_two_pow (a := x) (b := 9223372036854775808) (n := 63)
  rw [show (2 : Nat) ^ 63 = 9223372036854775808 from rfl] at h
  rw [h]
  have e : 9223372036854775808 / 9223372036854775808 = 1 := by decide
  rw [e]
  have h2 := Nat.xor_mod_two_pow (a := x / 9223372036854775808) (b := 1) (n := 1)
  rw [show (2 : Nat) ^ 1 = 2 from rfl] at h2
  rw [h2]
  rcases Nat.mod_two_eq_zero_or_one (x / 9223372036854775808) with h3 | h3 <;> rw [h3] <;> rfl


/-! ### A number that a word holds is written exactly -/

theorem mant_lt (r : Nat) : mant r < 9007199254740992 := by
  unfold mant
  split <;> omega

theorem rung_parts {r : Nat} : expo r * 4503599627370496 + mant r = r := by
  unfold mant expo
  split <;> omega

/-- The place of the leading digit, where there is one. -/
theorem mag_log {r : Nat} (h : 0 < r) : max ((mag r).log2 - 52 : Int) 0 = expo r := by
  unfold mag
  by_cases hb : r < 4503599627370496
  · have hm : mant r = r := by unfold mant; rw [if_pos hb]
    have he : expo r = 0 := by unfold expo; rw [if_pos hb]
    rw [hm, he]
    have h1 : r.log2 < 52 := (Nat.log2_lt (by omega)).2 (by omega)
    simp only [Nat.pow_zero, Nat.mul_one]
    omega
  · have hm : 4503599627370496 ≤ mant r := by unfold mant; rw [if_neg hb]; omega
    have hm2 := mant_lt r
    have h1 : (mant r * 2 ^ expo r).log2 = 52 + expo r := by
      rw [Nat.log2_eq_iff (by
        have := Nat.two_pow_pos (expo r)
        exact Nat.ne_of_gt (Nat.mul_pos (by omega) this))]
      have hp := Nat.two_pow_pos (expo r)
      constructor
      · rw [Nat.pow_add]
        exact Nat.mul_le_mul_right _ (by omega)
      · rw [show 52 + expo r + 1 = 53 + expo r by omega, Nat.pow_add]
        exact Nat.mul_lt_mul_of_pos_right (by omega) hp
    rw [h1]
    omega

theorem log_mul_pow {n : Nat} (h : n ≠ 0) (a : Nat) : (n * 2 ^ a).log2 = n.log2 + a := by
  rw [Nat.log2_eq_iff (by have := Nat.two_pow_pos a; exact Nat.ne_of_gt (Nat.mul_pos (by omega) this))]
  have hp := Nat.two_pow_pos a
  constructor
  · rw [Nat.pow_add]
    exact Nat.mul_le_mul_right _ (Nat.log2_self_le h)
  · rw [show n.log2 + a + 1 = (n.log2 + 1) + a by omega, Nat.pow_add]
    exact Nat.mul_lt_mul_of_pos_right Nat.lt_log2_self hp

theorem cut_exact (k d : Nat) (h : k ≠ 0) : Ieee.Toward.even.cut false (k * 2 ^ d) d = k := by
  unfold Ieee.Toward.cut
  simp only
  rw [log_mul_pow h, Nat.min_eq_left (by omega), Nat.one_shiftLeft]
  have hp := Nat.two_pow_pos d
  rw [Nat.mul_div_cancel _ hp, Nat.mul_mod_left]
  have h1 : ¬ (2 ^ d < 2 * 0) := by omega
  have h2 : ¬ (2 ^ d = 2 * 0) := by omega
  simp [h1]

theorem gen_exact (f : Ieee.Format) (hb : f.binade = 4503599627370496) (hi : f.infRung = 9218868437227405312) (hl : f.leastPlace = -1074) (hf : f.fractionBits = 52)
    {R n a b : Nat} {p : Int} (hR : R ≤ 9218868437227405312) (h : n * 2 ^ a = mag R * 2 ^ b) (hp : p = -1074 + (a : Int) - b) : f.nearest false n p = R := by
  have pa := Nat.two_pow_pos a
  have pb := Nat.two_pow_pos b
  unfold Ieee.Format.nearest
  by_cases h0 : n = 0
  · subst h0
    rw [if_pos rfl]
    have hm : mag R = 0 := by
      rw [Nat.zero_mul] at h
      rcases Nat.eq_zero_or_pos (mag R) with h' | h'
      · exact h'
      · have := Nat.mul_pos h' pb
        omega
    show 0 = R
    rcases Nat.eq_zero_or_pos R with h' | h'
    · exact h'.symm
    · have := mag_mono h'
      omega
  · rw [if_neg h0]
    have hm : mag R ≠ 0 := by
      intro h'
      rw [h', Nat.zero_mul] at h
      have := Nat.mul_pos (Nat.pos_of_ne_zero h0) pa
      omega
    have hR0 : 0 < R := by
      rcases Nat.eq_zero_or_pos R with h' | h'
      · rw [h'] at hm
        exact absurd mag_zero hm
      · exact h'
    have hlog : n.log2 + a = (mag R).log2 + b := by
      rw [← log_mul_pow h0, ← log_mul_pow hm, h]
    have hlast : max (p + (n.log2 : Int) - (f.fractionBits : Int)) f.leastPlace = -1074 + (expo R : Int) := by
      rw [hl, hf, ← mag_log hR0]
      omega
    simp only [hlast]
    simp only [hb, hi, hl]
    have hk : Ieee.Toward.even.cut false (n <<< (p - (-1074 + (expo R : Int))).toNat) (-1074 + (expo R : Int) - p).toNat = mant R := by
      have hmR : mant R ≠ 0 := by
        intro h'
        unfold mag at hm
        rw [h', Nat.zero_mul] at hm
        exact hm rfl
      have hE : n * 2 ^ a = mant R * 2 ^ (expo R + b) := by
        rw [h]
        unfold mag
        rw [Nat.pow_add, Nat.mul_assoc]
      rcases Nat.le_total (expo R + b) a with hle | hle
      · have e1 : (p - (-1074 + (expo R : Int))).toNat = a - (expo R + b) := by omega
        have e2 : (-1074 + (expo R : Int) - p).toNat = 0 := by omega
        rw [e1, e2, Nat.shiftLeft_eq]
        have e3 : n * 2 ^ (a - (expo R + b)) = mant R := by
          have : n * 2 ^ (a - (expo R + b)) * 2 ^ (expo R + b) = mant R * 2 ^ (expo R + b) := by
            rw [Nat.mul_assoc, ← Nat.pow_add, Nat.sub_add_cancel hle, hE]
          exact Nat.eq_of_mul_eq_mul_right (Nat.two_pow_pos _) this
        rw [e3]
        have := cut_exact (mant R) 0 hmR
        rwa [Nat.pow_zero, Nat.mul_one] at this
      · have e1 : (p - (-1074 + (expo R : Int))).toNat = 0 := by omega
        have e2 : (-1074 + (expo R : Int) - p).toNat = expo R + b - a := by omega
        rw [e1, e2, Nat.shiftLeft_zero]
        have e3 : n = mant R * 2 ^ (expo R + b - a) := by
          have : n * 2 ^ a = mant R * 2 ^ (expo R + b - a) * 2 ^ a := by
            rw [Nat.mul_assoc, ← Nat.pow_add, Nat.sub_add_cancel hle, hE]
          exact Nat.eq_of_mul_eq_mul_right pa this
        rw [e3]
        exact cut_exact _ _ hmR
    rw [hk]
    have e4 : (-1074 + (expo R : Int) - -1074).toNat = expo R := by omega
    rw [e4, rung_parts]
    show min R 9218868437227405312 = R
    exact Nat.min_eq_left hR

theorem nearest_exact {R n a b : Nat} {p : Int} (hR : R ≤ 9218868437227405312) (h : n * 2 ^ a = mag R * 2 ^ b) (hp : p = -1074 + (a : Int) - b) : Ieee.double.nearest false n p = R :=
  gen_exact _ lit_binade lit_inf lit_least rfl hR h hp

/-! ### Doubling and halving -/

/-- The rung of the double. -/
def dbl (r : Nat) : Nat := if r < 4503599627370496 then 2 * r else r + 4503599627370496

theorem mag_small {r : Nat} (h : r < 9007199254740992) : mag r = r := by
  unfold mag mant expo
  by_cases hb : r < 4503599627370496
  · rw [if_pos hb, if_pos hb]; simp
  · rw [if_neg hb, if_neg hb, show r / 4503599627370496 - 1 = 0 by omega]
    simp only [Nat.pow_zero, Nat.mul_one]
    omega

theorem mag_up {r : Nat} (h : 4503599627370496 ≤ r) : mag (r + 4503599627370496) = 2 * mag r := by
  unfold mag mant expo
  rw [if_neg (by omega), if_neg (by omega), if_neg (by omega), if_neg (by omega)]
  rw [show (r + 4503599627370496) % 4503599627370496 = r % 4503599627370496 by omega, show (r + 4503599627370496) / 4503599627370496 - 1 = (r / 4503599627370496 - 1) + 1 by omega, Nat.pow_succ]
  rw [← Nat.mul_assoc, Nat.mul_comm]

theorem mag_dbl (r : Nat) : mag (dbl r) = 2 * mag r := by
  unfold dbl
  by_cases hb : r < 4503599627370496
  · rw [if_pos hb, mag_small (by omega), mag_small (by omega)]
  · rw [if_neg hb, mag_up (by omega)]

def dbls : Nat → Nat → Nat
  | 0, r => r
  | k + 1, r => dbl (dbls k r)

theorem mag_dbls (k r : Nat) : mag (dbls k r) = mag r * 2 ^ k := by
  induction k with
  | zero => simp [dbls]
  | succ k ih =>
    show mag (dbl (dbls k r)) = _
    rw [mag_dbl, ih, Nat.pow_succ, Nat.mul_comm 2, Nat.mul_assoc]

theorem dbl_le (r : Nat) : dbl r ≤ r + 4503599627370496 := by
  unfold dbl
  split <;> omega

theorem dbls_le (k r : Nat) : dbls k r ≤ r + k * 4503599627370496 := by
  induction k with
  | zero => simp [dbls]
  | succ k ih =>
    have := dbl_le (dbls k r)
    show dbl (dbls k r) ≤ _
    omega

theorem mag_le_iff (a b : Nat) : mag a ≤ mag b ↔ a ≤ b := by
  constructor
  · intro h
    rcases Nat.lt_or_ge b a with h' | h'
    · have := mag_mono h'; omega
    · exact h'
  · intro h
    rcases Nat.lt_or_eq_of_le h with h' | h'
    · exact Nat.le_of_lt (mag_mono h')
    · rw [h']; exact Nat.le_refl _
end Go.Proofs.Qxb6619276a
