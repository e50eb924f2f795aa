import Derived.Test.Qxb6619276aFloat
namespace Go.Proofs.Qxb6619276a

/-! ### The operations, on rungs of positive figures -/

theorem rung_pos {t : Nat} (h : t < 9223372036854775808) : rung t = t ∧ neg t = false := by
  unfold rung neg
  refine ⟨by omega, ?_⟩
  have : t / 9223372036854775808 = 0 := by omega
  rw [this]; rfl

theorem read_pos {t : Nat} (h : t < 9218868437227405312) : Ieee.double.read t = .number false (mant t) (-1074 + (expo t : Int)) := by
  obtain ⟨h1, h2⟩ := rung_pos (t := t) (by omega)
  have := read_num (x := t) (by rw [h1]; exact h)
  rw [h1, h2] at this
  exact this

/-- A product with a power of two that a word holds. -/
theorem mul_pow {x y R : Nat} {k : Nat} (hx : x < 9218868437227405312) (hy : Ieee.double.read y = .number false 4503599627370496 (-1074 + (k : Int))) (hR : R ≤ 9218868437227405312) {c d : Nat}
    (h : mag x * 2 ^ c = mag R * 2 ^ d) (hc : (c : Int) - d = k - 1022) : floatBits .mul .f64 x y = some R ∧ floatBits .mul .f64 y x = some R := by
  have key : ∀ p : Int, p = (-1074 + (expo x : Int)) + (-1074 + (k : Int)) → Ieee.double.nearest false (mant x * 4503599627370496) p = R := by
    intro p hp
    refine nearest_exact (a := expo x + c) (b := 52 + d) hR ?_ (by omega)
    have e : mant x * 4503599627370496 * 2 ^ (expo x + c) = mag x * 2 ^ c * 2 ^ 52 := by
      unfold mag
      rw [Nat.pow_add]
      rw [show (4503599627370496 : Nat) = 2 ^ 52 from rfl]
      ac_rfl
    rw [e, h, show 52 + d = d + 52 by omega, Nat.pow_add]
    ac_rfl
  constructor
  · show Ieee.double.mul x y = some R
    unfold Ieee.Format.mul
    rw [read_pos hx, hy]
    show some (Ieee.double.nearest false (mant x * 4503599627370496) ((-1074 + (expo x : Int)) + (-1074 + (k : Int)))) = some R
    rw [key _ rfl]
  · show Ieee.double.mul y x = some R
    unfold Ieee.Format.mul
    rw [read_pos hx, hy]
    show some (Ieee.double.nearest false (4503599627370496 * mant x) ((-1074 + (k : Int)) + (-1074 + (expo x : Int)))) = some R
    rw [Nat.mul_comm, key _ (by omega)]

theorem read_two : Ieee.double.read 4611686018427387904 = .number false 4503599627370496 (-1074 + ((1023 : Nat) : Int)) := by
  rw [read_pos (by omega)]; decide
theorem read_one : Ieee.double.read 4607182418800017408 = .number false 4503599627370496 (-1074 + ((1022 : Nat) : Int)) := by
  rw [read_pos (by omega)]; decide
theorem read_2p52 : Ieee.double.read 4841369599423283200 = .number false 4503599627370496 (-1074 + ((1074 : Nat) : Int)) := by
  rw [read_pos (by omega)]; decide

theorem mul_two {t : Nat} (h : t < 9214364837600034816) : floatBits .mul .f64 t 4611686018427387904 = some (dbl t) := by
  have := dbl_le t
  exact (mul_pow (by omega) read_two (by omega) (c := 1) (d := 0) (by rw [mag_dbl]; omega) (by omega)).1

theorem mul_one {t : Nat} (h : t < 9218868437227405312) : floatBits .mul .f64 4607182418800017408 t = some t :=
  (mul_pow h read_one (by omega) (c := 0) (d := 0) rfl (by omega)).2

theorem mul_2p52 {t : Nat} (h : t < 4503599627370496) : floatBits .mul .f64 t 4841369599423283200 = some (dbls 52 t) := by
  have := dbls_le 52 t
  exact (mul_pow (by omega) read_2p52 (by omega) (c := 52) (d := 0) (by rw [mag_dbls]; simp) (by omega)).1

theorem write_number (f : Ieee.Format) (s : Bool) (m : Nat) (p : Int) : f.write (.number s m p) = f.nearest s m p := rfl

theorem div_two {t : Nat} (h : t < 9218868437227405312) (h2 : 9007199254740992 ≤ t) : floatBits .quo .f64 t 4611686018427387904 = some (t - 4503599627370496) := by
  show Ieee.double.div t 4611686018427387904 = _
  unfold Ieee.Format.div
  rw [read_pos h, read_two]
  have hm1 : 4503599627370496 ≤ mant t := by unfold mant; rw [if_neg (by omega)]; omega
  have hm2 := mant_lt t
  have hlog : (mant t).log2 = 52 := by rw [Nat.log2_eq_iff (by omega)]; omega
  have hlog2 : (4503599627370496 : Nat).log2 = 52 := by rw [Nat.log2_eq_iff (by omega)]; omega
  have hq : Ieee.Datum.quotient (52 + 2) (.number false (mant t) (-1074 + (expo t : Int))) (.number false 4503599627370496 (-1074 + ((1023 : Nat) : Int))) = some (.number false (8 * mant t) (-1074 + (expo t : Int) - 4)) := by
    unfold Ieee.Datum.quotient
    simp only [show ¬ (4503599627370496 = 0) by omega, if_false, hlog, hlog2]
    rw [Nat.shiftLeft_eq]
    have e1 : mant t * 2 ^ (52 + 2 + 52 - 52) = 4 * mant t * 4503599627370496 := by
      rw [show (52 + 2 + 52 - 52) = 54 from rfl, show (2 : Nat) ^ 54 = 4 * 4503599627370496 from rfl]
      ac_rfl
    rw [e1, Nat.mul_div_cancel _ (by omega), Nat.mul_mod_left]
    congr 1
    congr 1
    · show 2 * (4 * mant t) + 0 = 8 * mant t
      omega
    · omega
  show Option.map Ieee.double.write (Ieee.Datum.quotient (52 + 2) _ _) = _
  rw [hq, Option.map_some, write_number]
  refine congrArg some ?_
  refine nearest_exact (a := expo t) (b := 4) (by omega) ?_ (by omega)
  have e2 := mag_up (r := t - 4503599627370496) (by omega)
  rw [Nat.sub_add_cancel (by omega)] at e2
  have e3 : 8 * mant t * 2 ^ expo t = 8 * mag t := by unfold mag; rw [Nat.mul_assoc]
  rw [e3, e2]
  omega

/-- The places of the least unit behind the point; one, in those units. -/
def top : Nat := 1074
theorem top_eq : top = 1074 := rfl
def one : Nat := 2 ^ top
theorem one_pos : 0 < one := Nat.two_pow_pos _

theorem cut_zero (n d : Nat) : Ieee.Toward.zero.cut false n d = n / 2 ^ d := by
  unfold Ieee.Toward.cut
  simp only [Bool.toNat_false, Nat.add_zero]
  rw [Nat.one_shiftLeft]
  rcases Nat.le_total d (n.log2 + 2) with h | h
  · rw [Nat.min_eq_left h]
  · rw [Nat.min_eq_right h]
    have h1 : n < 2 ^ (n.log2 + 2) := by
      have := Nat.lt_log2_self (n := n)
      have h2 : 2 ^ (n.log2 + 2) = 2 * 2 ^ (n.log2 + 1) := by rw [Nat.pow_succ 2 (n.log2 + 1), Nat.mul_comm]
      omega
    have h3 : 2 ^ (n.log2 + 2) ≤ 2 ^ d := Nat.pow_le_pow_right (by omega) h
    rw [Nat.div_eq_of_lt h1, Nat.div_eq_of_lt (by omega)]

/-- 'uint64(t)'. -/
theorem to_u64 {t : Nat} (h : t < 9218868437227405312) (hlt : mag t < one * 18446744073709551616) : floatToIntVal .f64 t .u64 = some ((mag t / one : Nat) : Int) := by
  have hi : (FloatKind.f64.decode t).toInt .zero = some ((mag t / one : Nat) : Int) := by
    show (Ieee.double.read t).toInt .zero = _
    rw [read_pos h]
    show some (Ieee.signed false (Ieee.Toward.zero.cut false (mant t <<< (-1074 + (expo t : Int)).toNat) (-(-1074 + (expo t : Int))).toNat) 0) = _
    rw [cut_zero]
    unfold Ieee.signed
    simp only [Bool.false_eq_true, if_false, Nat.shiftLeft_zero]
    congr 2
    rw [Nat.shiftLeft_eq]
    unfold mag one
    have ht := top_eq
    rcases Nat.le_total (expo t) top with h | h
    · rw [show (-1074 + (expo t : Int)).toNat = 0 by omega, show (-(-1074 + (expo t : Int))).toNat = top - expo t by omega, Nat.pow_zero, Nat.mul_one]
      rw [show (2 : Nat) ^ top = 2 ^ (top - expo t) * 2 ^ expo t by rw [← Nat.pow_add, Nat.sub_add_cancel h]]
      rw [Nat.mul_div_mul_right _ _ (Nat.two_pow_pos _)]
    · rw [show (-1074 + (expo t : Int)).toNat = expo t - top by omega, show (-(-1074 + (expo t : Int))).toNat = 0 by omega, Nat.pow_zero, Nat.div_one]
      rw [show (2 : Nat) ^ expo t = 2 ^ (expo t - top) * 2 ^ top by rw [← Nat.pow_add, Nat.sub_add_cancel h]]
      rw [← Nat.mul_assoc, Nat.mul_div_cancel _ (Nat.two_pow_pos _)]
  unfold floatToIntVal
  rw [hi]
  have : mag t / one < 18446744073709551616 := (Nat.div_lt_iff_lt_mul one_pos).2 (by rw [Nat.mul_comm]; exact hlt)
  have hb : IntKind.u64.min ≤ ((mag t / one : Nat) : Int) ∧ ((mag t / one : Nat) : Int) ≤ IntKind.u64.max := by
    have e1 : IntKind.u64.min = 0 := by decide
    have e2 : IntKind.u64.max = 18446744073709551615 := by decide
    rw [e1, e2]
    generalize mag t / one = q at this
    omega
  simp only [hb, and_self, if_true]

/-- 'float64(n)'. -/
theorem of_u64 {n : Nat} (h : n < 9007199254740992) : floatOfInt .f64 (n : Int) = dbls top n := by
  have hd : decide ((n : Int) < 0) = false := by simp
  show Ieee.double.nearest (decide ((n : Int) < 0)) (n : Int).natAbs 0 = _
  rw [hd, Int.natAbs_natCast]
  have h1 := dbls_le top n
  have hm : mag (dbls top n) = n * 2 ^ top := by rw [mag_dbls, mag_small h]
  generalize dbls top n = X at h1 hm ⊢
  have h2 : X ≤ 9218868437227405312 := by
    rw [top_eq] at h1
    omega
  refine nearest_exact (a := top) (b := 0) h2 ?_ (by rw [top_eq]; rfl)
  rw [hm, Nat.pow_zero, Nat.mul_one]

theorem mag_of_u64 {n : Nat} (h : n < 9007199254740992) : mag (dbls top n) = n * one := by
  rw [mag_dbls, mag_small h]
  rfl
end Go.Proofs.Qxb6619276a
