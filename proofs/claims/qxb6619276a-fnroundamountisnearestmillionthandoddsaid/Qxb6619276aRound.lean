import Derived.Test.Qxb6619276aExp2
namespace Go.Proofs.Qxb6619276a

/-! ### roundAmount -/

/-- The mantissa that roundAmount works with. -/
def mOf (t : Nat) : Nat := 4503599627370496 + frF t % 4503599627370496

theorem frF_bounds (t : Nat) : 4602678819172646912 ≤ frF t ∧ frF t < 4607182418800017408 ∧ frF t % 4503599627370496 = nrm t % 4503599627370496 := by
  unfold frF
  have : (4602678819172646912 : Nat) = 1022 * 4503599627370496 := rfl
  omega

theorem mag_nrm {t : Nat} (h0 : 0 < t) (ht : t < 9218868437227405312) : mag (nrm t) = mOf t * 2 ^ (nrm t / 4503599627370496 - 1) := by
  obtain ⟨g1, g2⟩ := nrm_pos h0 ht
  unfold mOf
  rw [(frF_bounds t).2.2]
  unfold mag mant expo
  rw [if_neg (by omega), if_neg (by omega)]

theorem mOf_bounds (t : Nat) : 4503599627370496 ≤ mOf t ∧ mOf t < 9007199254740992 := by
  unfold mOf
  omega

theorem frexp_far {t : Nat} (h0 : 0 < t) (ht : t < 9218868437227405312) (h : 53 ≤ frE t) : 4503599627370496 * one ≤ mag t := by
  have hm := mag_nrm h0 ht
  have hb := mOf_bounds t
  unfold frE nrmE at h
  by_cases hs : t < 4503599627370496
  · rw [if_pos hs] at h
    have h1 := dbls_le 52 t
    have : nrm t = dbls 52 t := by unfold nrm; rw [if_pos hs]
    rw [this] at h
    omega
  · rw [if_neg hs] at h
    have : nrm t = t := by unfold nrm; rw [if_neg hs]
    rw [this] at h hm
    rw [hm]
    refine Nat.mul_le_mul hb.1 ?_
    refine Nat.pow_le_pow_right (by omega) ?_
    rw [top_eq]
    omega

theorem frexp_near {t : Nat} (h0 : 0 < t) (ht : t < 9218868437227405312) (h : frE t < 53) : ∃ s : Nat, frE t = 53 - (s : Int) ∧ 1 ≤ s ∧ s ≤ 1127 ∧ mag t * 2 ^ s = mOf t * one := by
  have hm := mag_nrm h0 ht
  have hg := nrm_pos h0 ht
  unfold frE nrmE at h
  unfold frE nrmE
  by_cases hs : t < 4503599627370496
  · rw [if_pos hs] at h ⊢
    have h1 := dbls_le 52 t
    have hn : nrm t = dbls 52 t := by unfold nrm; rw [if_pos hs]
    rw [hn] at h hm hg ⊢
    refine ⟨1127 - dbls 52 t / 4503599627370496, by omega, by omega, by omega, ?_⟩
    rw [mag_dbls] at hm
    unfold one
    generalize dbls 52 t = T at *
    rw [show 1127 - T / 4503599627370496 = 52 + (1075 - T / 4503599627370496) by omega, Nat.pow_add, ← Nat.mul_assoc, hm, Nat.mul_assoc, ← Nat.pow_add]
    congr 2
    rw [top_eq]
    omega
  · rw [if_neg hs] at h ⊢
    have hn : nrm t = t := by unfold nrm; rw [if_neg hs]
    rw [hn] at h hm hg ⊢
    refine ⟨1075 - t / 4503599627370496, by omega, by omega, by omega, ?_⟩
    rw [hm]
    unfold one
    rw [Nat.mul_assoc, ← Nat.pow_add]
    congr 2
    rw [top_eq]
    omega

theorem whole_mag (t : Nat) : whole (frF t) < 9218868437227405312 ∧ mag (whole (frF t)) = mOf t * one := by
  unfold whole mOf
  generalize hF : frF t % 4503599627370496 = F
  have hF' : F < 4503599627370496 := by omega
  refine ⟨by omega, ?_⟩
  have h1 : (4841369599423283200 + F) % 4503599627370496 = F := by omega
  have h2 : (4841369599423283200 + F) / 4503599627370496 - 1 = top := by rw [top_eq]; omega
  unfold mag mant expo
  rw [if_neg (by omega), if_neg (by omega), h1, h2]
  rfl

theorem whole_int (t : Nat) : floatToIntVal .f64 (whole (frF t)) .u64 = some (mOf t : Int) := by
  obtain ⟨h1, h2⟩ := whole_mag t
  have hb := mOf_bounds t
  have hp := one_pos
  have h3 := to_u64 h1 (by
    rw [h2, Nat.mul_comm]
    exact Nat.mul_lt_mul_of_pos_left (by omega) hp)
  rw [h3, h2, Nat.mul_div_cancel _ hp]

/-- What roundAmount finds, as a plain number: the nearest millionth, halves up. -/
def quo (V : Nat) : Nat := (2000000 * V + one) / (2 * one)

theorem quo_of {V s m : Nat} (hs : 1 ≤ s) (h : V * 2 ^ s = m * one) : quo V = (m * 1000000 + 2 ^ (s - 1)) / 2 ^ s := by
  unfold quo
  have hp := one_pos
  have h2 := Nat.two_pow_pos s
  have h3 : 2 ^ s = 2 * 2 ^ (s - 1) := by
    rw [Nat.mul_comm, ← Nat.pow_succ]
    congr 1
    omega
  generalize 2 ^ (s - 1) = H at *
  generalize one = O at *
  rw [← Nat.mul_div_mul_right _ _ h2]
  have e1 : (2000000 * V + O) * 2 ^ s = (m * 1000000 + H) * (2 * O) := by
    rw [Nat.add_mul, Nat.mul_assoc, h, h3, Nat.add_mul, Nat.mul_assoc m 1000000 (2 * O), ← Nat.mul_assoc 1000000 2 O, Nat.mul_left_comm m]
    have e2 : O * (2 * H) = H * (2 * O) := by
      rw [Nat.mul_left_comm, Nat.mul_comm O H, Nat.mul_left_comm]
    rw [e2]
  rw [e1, show 2 * O * 2 ^ s = 2 ^ s * (2 * O) by rw [Nat.mul_comm], Nat.mul_div_mul_right _ _ (by omega)]
end Go.Proofs.Qxb6619276a
