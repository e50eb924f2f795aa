import Derived.Test.Qxb6619276aMath
namespace Go.Proofs.Qxb6619276a

/-- Two positive figures stand as their words. -/
theorem ord_pos {a b : Nat} (ha : a ≤ 9218868437227405312) (hb : b ≤ 9218868437227405312) : Ieee.double.order a b = some (compare a b) := by
  show ord a b = _
  obtain ⟨r1, n1⟩ := rung_pos (t := a) (by omega)
  obtain ⟨r2, n2⟩ := rung_pos (t := b) (by omega)
  have k1 : key a = (mag a : Int) := by unfold key; rw [r1, n1]; rfl
  have k2 : key b = (mag b : Int) := by unfold key; rw [r2, n2]; rfl
  rw [order_num (by unfold isNum; omega) (by unfold isNum; omega), k1, k2]
  congr 1
  rcases Nat.lt_trichotomy a b with h | h | h
  · rw [Nat.compare_eq_lt.2 h, Int.compare_eq_lt.2 (by have := mag_mono h; omega)]
  · subst h
    rw [Nat.compare_eq_eq.2 rfl, Int.compare_eq_eq.2 rfl]
  · rw [Nat.compare_eq_gt.2 h, Int.compare_eq_gt.2 (by have := mag_mono h; omega)]

theorem lt_pos {a b : Nat} (ha : a ≤ 9218868437227405312) (hb : b ≤ 9218868437227405312) : (FloatKind.f64.format.order a b == some .lt) = decide (a < b) := by
  rw [show FloatKind.f64.format.order a b = Ieee.double.order a b from rfl, ord_pos ha hb]
  rcases Nat.lt_trichotomy a b with h | h | h
  · rw [Nat.compare_eq_lt.2 h, decide_eq_true h]; rfl
  · rw [Nat.compare_eq_eq.2 h, decide_eq_false (by omega)]; rfl
  · rw [Nat.compare_eq_gt.2 h, decide_eq_false (by omega)]; rfl

theorem eq_pos {a b : Nat} (ha : a ≤ 9218868437227405312) (hb : b ≤ 9218868437227405312) : (FloatKind.f64.format.order a b == some .eq) = decide (a = b) := by
  rw [show FloatKind.f64.format.order a b = Ieee.double.order a b from rfl, ord_pos ha hb]
  rcases Nat.lt_trichotomy a b with h | h | h
  · rw [Nat.compare_eq_lt.2 h, decide_eq_false (by omega)]; rfl
  · rw [Nat.compare_eq_eq.2 h, decide_eq_true h]; rfl
  · rw [Nat.compare_eq_gt.2 h, decide_eq_false (by omega)]; rfl

theorem wrap_id {n : Int} (h0 : -9223372036854775808 ≤ n) (h1 : n ≤ 9223372036854775807) : RowKit.wrap64 n = n := by
  unfold RowKit.wrap64
  omega

/-- normalize of a positive figure. -/
def nrm (t : Nat) : Nat := if t < 4503599627370496 then dbls 52 t else t
def nrmE (t : Nat) : Int := if t < 4503599627370496 then -52 else 0

theorem normalize_any (t : Nat) (ht : t < 9218868437227405312) (w : World) : Calls Try.prog 37 #[.float .f64 t] w fun e w' => e = .returned (.tuple #[.float .f64 (nrm t), .int .i64 (nrmE t)]) ∧ w' = w := by
  have hr : rung t = t := (rung_pos (by omega)).1
  have hb := lt_pos (a := t) (b := 4503599627370496) (by omega) (by omega)
  unfold nrm nrmE
  by_cases h : t < 4503599627370496
  · have hop : ∀ ty w, (binOp .mul ty (.float .f64 t) (.float .f64 4841369599423283200)).run Try.prog w = .ok (.float .f64 (dbls 52 t)) w := fun ty w => run_float_arith w .mul ty .f64 t _ _ (mul_2p52 h)
    rw [if_pos h, if_pos h]
    rw [decide_eq_true h] at hb
    go_enter Try.func37, Try.ntmps37
    go_wp2_with (first | (go_at_call 24; refine (abs_any t (by omega) _).mono ?_; rw [hr]; rintro e w' ⟨rfl, rfl⟩))
    go_ret2
    exact ⟨rfl, rfl⟩
  · rw [if_neg h, if_neg h]
    rw [decide_eq_false h] at hb
    go_enter Try.func37, Try.ntmps37
    go_wp2_with (first | (go_at_call 24; refine (abs_any t (by omega) _).mono ?_; rw [hr]; rintro e w' ⟨rfl, rfl⟩))
    go_ret2
    exact ⟨rfl, rfl⟩

theorem nrm_pos {t : Nat} (h0 : 0 < t) (ht : t < 9218868437227405312) : 4503599627370496 ≤ nrm t ∧ nrm t < 9218868437227405312 := by
  unfold nrm
  by_cases h : t < 4503599627370496
  · rw [if_pos h]
    have h1 := dbls_le 52 t
    have h2 := mag_dbls 52 t
    rw [mag_small (r := t) (by omega)] at h2
    refine ⟨(mag_le_iff _ _).1 ?_, by omega⟩
    rw [h2, mag_small (by omega)]
    omega
  · rw [if_neg h]
    omega

theorem inf_no {t : Nat} (ht : t < 9218868437227405312) : inf t = false := by
  unfold inf
  rw [(rung_pos (t := t) (by omega)).1, decide_eq_false (by omega)]
theorem nan_no {t : Nat} (ht : t < 9218868437227405312) : nan t = false := by
  unfold nan
  rw [(rung_pos (t := t) (by omega)).1, decide_eq_false (by omega)]

theorem isNaN_no {t : Nat} (ht : t < 9218868437227405312) (w : World) : Calls Try.prog 21 #[.float .f64 t] w fun e w' => e = .returned (.bool false) ∧ w' = w := by
  have := isNaN_any t w
  rwa [nan_no ht] at this
theorem isInf_no {t : Nat} (ht : t < 9218868437227405312) (w : World) : Calls Try.prog 22 #[.float .f64 t, .int .i64 0] w fun e w' => e = .returned (.bool false) ∧ w' = w := by
  have := isInf_any t (by omega) w
  rwa [inf_no ht] at this

/-- Frexp of a positive figure that is not zero. -/
def frF (t : Nat) : Nat := 4602678819172646912 + nrm t % 4503599627370496
def frE (t : Nat) : Int := nrmE t + ((nrm t / 4503599627370496 : Nat) : Int) - 1022

set_option maxHeartbeats 1000000 in
theorem frexp_any {t : Nat} (h0 : 0 < t) (ht : t < 9218868437227405312) (w : World) : Calls Try.prog 30 #[.float .f64 t] w fun e w' => e = .returned (.tuple #[.float .f64 (frF t), .int .i64 (frE t)]) ∧ w' = w := by
  have hz := eq_pos (a := t) (b := 0) (by omega) (by omega)
  rw [decide_eq_false (by omega)] at hz
  obtain ⟨g1, g2⟩ := nrm_pos h0 ht
  unfold frF frE
  have he : nrmE t = -52 ∨ nrmE t = 0 := by unfold nrmE; split <;> simp
  have hN := normalize_any t ht
  generalize nrm t = T at *
  generalize nrmE t = x at *
  go_enter Try.func30, Try.ntmps30
  go_wp2_with (first
    | (go_at_call 22; refine (isInf_no ht _).mono ?_; rintro e w' ⟨rfl, rfl⟩)
    | (go_at_call 21; refine (isNaN_no ht _).mono ?_; rintro e w' ⟨rfl, rfl⟩)
    | (go_at_call 37; refine (hN _).mono ?_; rintro e w' ⟨rfl, rfl⟩)
    | simp only [call_bits] | simp only [call_frombits])
  have f1 := andNot_exp T (by omega)
  have f2 := or_high (T % 4503599627370496) 1022 (by omega) (by omega)
  have f3 := and_2047 (T / 4503599627370496) (by omega)
  rw [← f1] at f2
  rw [show ((1022 * 4503599627370496 : Nat) : Int) = 4602678819172646912 from rfl] at f2
  rw [Int.natCast_ediv, show ((4503599627370496 : Nat) : Int) = 4503599627370496 from rfl] at f3
  go_ret2
  refine ⟨congrArg Ending.returned ?_, rfl⟩
  have f4 : (bits .or .u64 (bits .andNot .u64 (T : Int) 9218868437227405312) 4602678819172646912).toNat = 4602678819172646912 + T % 4503599627370496 := by
    rw [f2, Int.toNat_natCast]
  have f5 : RowKit.wrap64 (x + RowKit.wrap64 (RowKit.wrap64 (RowKit.wrap64 (bits .and .u64 ((T : Int) / 4503599627370496) 2047) - 1023) + 1)) = x + ((T / 4503599627370496 : Nat) : Int) - 1022 := by
    rw [f3]
    generalize hq : T / 4503599627370496 = q
    have : q < 2048 := by omega
    rw [wrap_id (n := ((q % 2048 : Nat) : Int)) (by omega) (by omega), wrap_id (n := ((q % 2048 : Nat) : Int) - 1023) (by omega) (by omega), wrap_id (n := ((q % 2048 : Nat) : Int) - 1023 + 1) (by omega) (by omega), wrap_id (by omega) (by omega)]
    omega
  show Value.tuple #[.float .f64 (bits .or .u64 (bits .andNot .u64 (T : Int) 9218868437227405312) 4602678819172646912).toNat, .int .i64 (RowKit.wrap64 (x + RowKit.wrap64 (RowKit.wrap64 (RowKit.wrap64 (bits .and .u64 ((T : Int) / 4503599627370496) 2047) - 1023) + 1)))] = _
  rw [f4, f5]
end Go.Proofs.Qxb6619276a
