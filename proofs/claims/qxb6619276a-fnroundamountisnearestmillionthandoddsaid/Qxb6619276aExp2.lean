import Derived.Test.Qxb6619276aExp
namespace Go.Proofs.Qxb6619276a

theorem frexp_zero (w : World) : Calls Try.prog 30 #[.float .f64 0] w fun e w' => e = .returned (.tuple #[.float .f64 0, .int .i64 0]) ∧ w' = w := by
  have hz := eq_pos (a := 0) (b := 0) (by omega) (by omega)
  rw [decide_eq_true rfl] at hz
  go_enter Try.func30, Try.ntmps30
  go_wp2
  go_ret2
  exact ⟨rfl, rfl⟩

theorem Frexp_any {t : Nat} (h0 : 0 < t) (ht : t < 9218868437227405312) (w : World) : Calls Try.prog 23 #[.float .f64 t] w fun e w' => e = .returned (.tuple #[.float .f64 (frF t), .int .i64 (frE t)]) ∧ w' = w := by
  go_enter Try.func23, Try.ntmps23
  go_wp2_with (go_at_call 30; refine (frexp_any h0 ht _).mono ?_; rintro e w' ⟨rfl, rfl⟩)
  go_ret2
  exact ⟨rfl, rfl⟩

theorem Frexp_zero (w : World) : Calls Try.prog 23 #[.float .f64 0] w fun e w' => e = .returned (.tuple #[.float .f64 0, .int .i64 0]) ∧ w' = w := by
  go_enter Try.func23, Try.ntmps23
  go_wp2_with (go_at_call 30; refine (frexp_zero _).mono ?_; rintro e w' ⟨rfl, rfl⟩)
  go_ret2
  exact ⟨rfl, rfl⟩

theorem ldexp_zero (w : World) : Calls Try.prog 34 #[.float .f64 0, .int .i64 53] w fun e w' => e = .returned (.float .f64 0) ∧ w' = w := by
  have hz := eq_pos (a := 0) (b := 0) (by omega) (by omega)
  rw [decide_eq_true rfl] at hz
  go_enter Try.func34, Try.ntmps34
  go_wp2
  go_ret
  exact ⟨rfl, rfl⟩

/-- The word of a whole number with 53 digits. -/
def whole (f : Nat) : Nat := 4841369599423283200 + f % 4503599627370496

set_option maxHeartbeats 1000000 in
theorem ldexp_any {f : Nat} (h0 : 4602678819172646912 ≤ f) (h1 : f < 4607182418800017408) (w : World) : Calls Try.prog 34 #[.float .f64 f, .int .i64 53] w fun e w' => e = .returned (.float .f64 (whole f)) ∧ w' = w := by
  have hz := eq_pos (a := f) (b := 0) (by omega) (by omega)
  rw [decide_eq_false (by omega)] at hz
  have ht : f < 9218868437227405312 := by omega
  have hN := normalize_any f ht
  have e1 : nrm f = f := by unfold nrm; rw [if_neg (by omega)]
  have e2 : nrmE f = 0 := by unfold nrmE; rw [if_neg (by omega)]
  rw [e1, e2] at hN
  have f1 := andNot_exp f (by omega)
  have f2 := or_high (f % 4503599627370496) 1075 (by omega) (by omega)
  have f3 := and_2047_i (f / 4503599627370496) (by omega)
  rw [show f / 4503599627370496 % 2048 = 1022 by omega] at f3
  rw [← f1] at f2
  rw [show ((1075 * 4503599627370496 : Nat) : Int) = 4841369599423283200 from rfl] at f2
  rw [Int.natCast_ediv, show ((4503599627370496 : Nat) : Int) = 4503599627370496 from rfl, show ((1022 : Nat) : Int) = 1022 from rfl] at f3
  have f6 : RowKit.wrap64 ((f : Int) / 4503599627370496) = (f : Int) / 4503599627370496 := wrap_id (by omega) (by omega)
  have hop : ∀ ty w, (binOp .mul ty (.float .f64 4607182418800017408) (.float .f64 (whole f))).run Try.prog w = .ok (.float .f64 (whole f)) w := fun ty w => run_float_arith w .mul ty .f64 _ _ _ (mul_one (by unfold whole; omega))
  have f4 : bits .or .u64 ((f : Int) % 4503599627370496) 4841369599423283200 = (whole f : Int) := by
    rw [f1, Int.natCast_emod] at f2
    exact f2
  go_enter Try.func34, Try.ntmps34
  go_wp2_with (first
    | (go_at_call 22; refine (isInf_no ht _).mono ?_; rintro e w' ⟨rfl, rfl⟩)
    | (go_at_call 21; refine (isNaN_no ht _).mono ?_; rintro e w' ⟨rfl, rfl⟩)
    | (go_at_call 37; refine (hN _).mono ?_; rintro e w' ⟨rfl, rfl⟩)
    | simp only [call_bits] | simp only [call_frombits])
  go_ret
  exact ⟨rfl, rfl⟩

theorem Ldexp_any {f : Nat} (h0 : 4602678819172646912 ≤ f) (h1 : f < 4607182418800017408) (w : World) : Calls Try.prog 25 #[.float .f64 f, .int .i64 53] w fun e w' => e = .returned (.float .f64 (whole f)) ∧ w' = w := by
  go_enter Try.func25, Try.ntmps25
  go_wp2_with (go_at_call 34; refine (ldexp_any h0 h1 _).mono ?_; rintro e w' ⟨rfl, rfl⟩)
  go_ret
  exact ⟨rfl, rfl⟩

theorem Ldexp_zero (w : World) : Calls Try.prog 25 #[.float .f64 0, .int .i64 53] w fun e w' => e = .returned (.float .f64 0) ∧ w' = w := by
  go_enter Try.func25, Try.ntmps25
  go_wp2_with (go_at_call 34; refine (ldexp_zero _).mono ?_; rintro e w' ⟨rfl, rfl⟩)
  go_ret
  exact ⟨rfl, rfl⟩

/-! ### bits.Mul64 -/

/-- The two words of a product. -/
def RetMul (p : Nat) (e : Ending) : Prop := ∃ h l : Nat, l < 18446744073709551616 ∧ h < 18446744073709551616 ∧ h * 18446744073709551616 + l = p ∧ e = .returned (.tuple #[.int .u64 (h : Int), .int .u64 (l : Int)])

theorem and_low (z : Int) (h0 : 0 ≤ z) (h1 : z ≤ 18446744073709551615) : bits .and .u64 z 4294967295 = z % 4294967296 := by
  obtain ⟨n, rfl⟩ := Int.eq_ofNat_of_zero_le h0
  have h := bits_and_u64_nat n 4294967295 (by omega) (by omega)
  rw [show ((4294967295 : Nat) : Int) = 4294967295 from rfl] at h
  rw [h, show 4294967295 = 2 ^ 32 - 1 from rfl, Nat.and_two_pow_sub_one_eq_mod]
  omega

set_option maxHeartbeats 1000000 in
theorem Mul64_any {m : Nat} (hm : m < 9007199254740992) (w : World) : Calls Try.prog 26 #[.int .u64 (m : Int), .int .u64 1000000] w fun e w' => RetMul (m * 1000000) e ∧ w' = w := by
  obtain ⟨a, ha⟩ : ∃ a, a = m / 4294967296 := ⟨_, rfl⟩
  obtain ⟨b, hb⟩ : ∃ b, b = m % 4294967296 := ⟨_, rfl⟩
  have f1 : bits .and .u64 (m : Int) 4294967295 = (b : Int) := by rw [and_low _ (by omega) (by omega)]; omega
  have f2 : bits .and .u64 1000000 4294967295 = 1000000 := by rw [and_low _ (by omega) (by omega)]; omega
  have f3 : (m : Int) / 4294967296 = (a : Int) := by omega
  have a1 : a < 2097152 := by omega
  have b1 : b < 4294967296 := by omega
  have f4 : bits .and .u64 ((a : Int) * 1000000 + (b : Int) * 1000000 / 4294967296) 4294967295 = ((a : Int) * 1000000 + (b : Int) * 1000000 / 4294967296) % 4294967296 := and_low _ (by omega) (by omega)
  have g1 : m ≤ a * 4294967296 + b := by omega
  have g2 : a * 4294967296 + b ≤ m := by omega
  clear ha hb
  go_enter Try.func26, Try.ntmps26
  go_wp2
  go_ret2
  refine ⟨⟨m * 1000000 / 18446744073709551616, m * 1000000 % 18446744073709551616, by omega, by omega, by omega, ?_⟩, rfl⟩
  refine congrArg Ending.returned ?_
  have e1 : ((a : Int) * 1000000 + (b : Int) * 1000000 / 4294967296) / 4294967296 + ((a : Int) * 1000000 + (b : Int) * 1000000 / 4294967296) % 4294967296 / 4294967296 = ((m * 1000000 / 18446744073709551616 : Nat) : Int) := by
    clear f1 f2 f3 f4 hm a1
    obtain ⟨q, hq⟩ : ∃ q : Nat, q = b * 1000000 / 4294967296 := ⟨_, rfl⟩
    obtain ⟨T, hT⟩ : ∃ T : Nat, T = a * 1000000 + q := ⟨_, rfl⟩
    obtain ⟨t, ht⟩ : ∃ t : Nat, t = T / 4294967296 := ⟨_, rfl⟩
    have e2 : ((a : Int) * 1000000 + (b : Int) * 1000000 / 4294967296) = (T : Int) := by omega
    rw [e2]
    have e3 : m * 1000000 / 18446744073709551616 = t := by
      rw [Nat.div_eq_iff (by omega)]
      omega
    rw [e3]
    omega
  have e2 : IntKind.u64.wrap ((m : Int) * 1000000) = ((m * 1000000 % 18446744073709551616 : Nat) : Int) := by
    rw [IntKind.wrap_u64]
    omega
  rw [← e1, ← e2]
  rfl
end Go.Proofs.Qxb6619276a
