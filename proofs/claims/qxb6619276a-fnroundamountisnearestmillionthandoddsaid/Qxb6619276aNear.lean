import Derived.Test.Qxb6619276aDec2
namespace Go.Proofs.Qxb6619276a
open Go.RowKit

theorem mz_key : key 9223372036854775808 = 0 := by
  have h1 : rung 9223372036854775808 = 0 := by decide
  unfold key
  rw [h1, mag_zero]
  split <;> rfl

theorem mz_num : isNum 9223372036854775808 := by unfold isNum; decide

theorem mz_ge : (FloatKind.f64.format.order 9223372036854775808 4845873199050653696 == some .gt || FloatKind.f64.format.order 9223372036854775808 4845873199050653696 == some .eq) = false := by
  have h : FloatKind.f64.format.order 9223372036854775808 4845873199050653696 = some (compare (key 9223372036854775808) (key 4845873199050653696)) := order_num mz_num (by unfold isNum; decide)
  rw [h, mz_key]
  refine cmp_nge ?_
  have h1 : rung 4845873199050653696 = 4845873199050653696 := by decide
  have h2 : neg 4845873199050653696 = false := by decide
  unfold key
  rw [h1, h2]
  have := mag_mono (show 0 < 4845873199050653696 by omega)
  generalize mag 4845873199050653696 = A at *
  simp only [Bool.false_eq_true, if_false]
  omega

theorem mz_int : floatToIntVal .f64 9223372036854775808 .u64 = some 0 := by decide

theorem mz_eq : (FloatKind.f64.format.order 9223372036854775808 0 != some .eq) = false := by
  have h : FloatKind.f64.format.order 9223372036854775808 0 = some (compare (key 9223372036854775808) 0) := ord_zero mz_num
  rw [h, mz_key]
  rfl

theorem mz_lt : (FloatKind.f64.format.order 9223372036854775808 0 == some .lt) = false := by
  have h : FloatKind.f64.format.order 9223372036854775808 0 = some (compare (key 9223372036854775808) 0) := ord_zero mz_num
  rw [h, mz_key]
  rfl

theorem of_zero : floatOfInt .f64 0 = 0 := by decide

set_option maxHeartbeats 1000000 in
set_option maxRecDepth 100000 in
theorem decompose_mz (w : World) : Calls Try.prog 11 #[.float .f64 9223372036854775808] w fun e w' => RetDec 0 e ∧ w' = w := by
  have e1 := mz_ge
  have e2 := mz_eq
  have e3 := mz_lt
  have hc : ∀ w, (convert 22 29 (.float .f64 9223372036854775808)).run Try.prog w = .ok (.int .u64 0) w := fun w => run_convert_float_int w 22 29 .f64 .u64 9223372036854775808 0 (by rw [Try.underlying22]; rfl) Try.underlying29 mz_int
  have hc2 : ∀ w, (convert 29 22 (.int .u64 0)).run Try.prog w = .ok (.float .f64 0) w := by
    intro w
    have := run_convert_int_float (P := Try.prog) w 29 22 .u64 .f64 0 (by rw [Try.underlying29]; rfl) Try.underlying22
    rwa [of_zero] at this
  have e9 : RetDec 0 (.returned (.tuple #[.int .u64 0, .int .i64 0])) := ⟨0, by omega, .inl ⟨0, by omega, by simp, rfl⟩⟩
  generalize 9223372036854775808 = X at *
  go_enter Try.func11, Try.ntmps11
  go_wp2_with fail
  go_loopw [4, 5, 6] (fun t e i wr => t = .float .f64 X ∧ e = .int .i64 0 ∧ i = .int .i64 0 ∧ wr = w) (fun _ _ _ _ => 0)
  case atStart => exact ⟨rfl, rfl, rfl, rfl⟩
  case round =>
    obtain ⟨rfl, rfl, rfl, hwr⟩ := hrel
    obtain rfl := hwr.symm
    clear hwr
    go_wp2_with fail
    go_loopw [4, 5, 7] (fun t e i wr => t = .float .f64 X ∧ e = .int .i64 0 ∧ i = .int .i64 0 ∧ wr = w) (fun _ _ _ _ => 0)
    case atStart => exact ⟨rfl, rfl, rfl, rfl⟩
    case round =>
      obtain ⟨rfl, rfl, rfl, hwr⟩ := hrel
      obtain rfl := hwr.symm
      clear hwr
      go_wp2_with fail
      go_ret2
      exact ⟨e9, rfl⟩

/-- The words of a finite figure: itself, its opposite, or minus nought. -/
theorem decompose_all {x : Nat} (hx : x < 18446744073709551616) (hf : rung x < 9218868437227405312) (w : World) : Calls Try.prog 11 #[.float .f64 x] w fun e w' => RetDec (mag (rung x)) e ∧ w' = w := by
  have hb := neg_order (x := x) (by unfold isNum; omega)
  by_cases hn : x < 9223372036854775808
  · obtain ⟨h1, h2⟩ := rung_pos hn
    rw [h1] at hf ⊢
    rw [h2] at hb
    exact decompose_pos hf hb w
  · have h2 : neg x = true := by
      unfold neg
      have : x / 9223372036854775808 = 1 := by omega
      rw [this]; rfl
    have h3 : rung x = x - 9223372036854775808 := by unfold rung; omega
    rcases Nat.eq_zero_or_pos (rung x) with h0 | h0
    · obtain rfl : x = 9223372036854775808 := by omega
      have h4 : mag (rung 9223372036854775808) = 0 := by rw [h0, mag_zero]
      rw [h4]
      exact decompose_mz w
    · rw [h2, decide_eq_true h0] at hb
      refine decompose_neg hf hb ?_ w
      have h5 := rung_negF x
      have h6 := neg_negF x
      rw [h2] at h6
      have h7 : negF x < 18446744073709551616 := by
        unfold negF
        exact Nat.xor_lt_two_pow (n := 64) hx (by omega)
      have h8 : negF x < 9223372036854775808 := by
        rcases Nat.lt_or_ge (negF x) 9223372036854775808 with h | h
        · exact h
        · unfold neg at h6
          have : negF x / 9223372036854775808 = 1 := by omega
          rw [this] at h6
          cases h6
      rw [← h5, (rung_pos h8).1]
end Go.Proofs.Qxb6619276a
