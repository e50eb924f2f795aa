import Derived.Test.Qxb6619276aDec
import Derived.OwnWalk
namespace Go.Proofs.Qxb6619276a
open Go.RowKit

/-! ### decompose -/

theorem run_neg_float {P : Program} (w : World) (x : Nat) : (Op.unary .neg (.float .f64 x)).run P w = .ok (.float .f64 (negF x)) w := rfl
attribute [local go_sem] run_neg_float

theorem ge_pos {a b : Nat} (ha : a ≤ 9218868437227405312) (hb : b ≤ 9218868437227405312) : (FloatKind.f64.format.order a b == some .gt || FloatKind.f64.format.order a b == some .eq) = decide (b ≤ a) := by
  rw [show FloatKind.f64.format.order a b = Ieee.double.order a b from rfl, ord_pos ha hb]
  rcases Nat.lt_trichotomy a b with h | h | h
  · rw [Nat.compare_eq_lt.2 h, decide_eq_false (by omega)]; rfl
  · rw [Nat.compare_eq_eq.2 h, decide_eq_true (by omega)]; rfl
  · rw [Nat.compare_eq_gt.2 h, decide_eq_true (by omega)]; rfl

theorem ne_pos {a b : Nat} (ha : a ≤ 9218868437227405312) (hb : b ≤ 9218868437227405312) : (FloatKind.f64.format.order a b != some .eq) = !decide (a = b) := by
  rw [← eq_pos ha hb]
  rfl

/-- A figure at or above 2^52 and below 2^53 is a whole number. -/
theorem mag_whole {t : Nat} (h : 4841369599423283200 ≤ t) (h2 : t < 4845873199050653696) : mag t = mant t * one := by
  unfold mag one
  congr 2
  unfold expo
  rw [if_neg (by omega), top_eq]
  omega

theorem mag_lt53 {t : Nat} (h : t < 4845873199050653696) : mag t < 9007199254740992 * one := by
  have h1 : mag t ≤ mag 4845873199050653695 := (mag_le_iff _ _).2 (by omega)
  rw [mag_whole (t := 4845873199050653695) (by omega) (by omega)] at h1
  have h2 : mant 4845873199050653695 < 9007199254740992 := mant_lt _
  exact Nat.lt_of_le_of_lt h1 (Nat.mul_lt_mul_of_pos_right h2 one_pos)

theorem mag_half {t : Nat} (h : 9007199254740992 ≤ t) : mag (t - 4503599627370496) * 2 = mag t := by
  have := mag_up (r := t - 4503599627370496) (by omega)
  rw [Nat.sub_add_cancel (by omega)] at this
  omega

/-- What the loops look at: the whole part and the figure made of it. -/
theorem whole_part {t : Nat} (h : t < 4845873199050653696) : ∃ m F : Nat, m < 9007199254740992 ∧ F ≤ 9218868437227405312 ∧ mag F = m * one ∧ m = mag t / one ∧ floatToIntVal .f64 t .u64 = some (m : Int) ∧ floatOfInt .f64 (m : Int) = F := by
  have h1 := mag_lt53 h
  have hp := one_pos
  have h2 : mag t / one < 9007199254740992 := (Nat.div_lt_iff_lt_mul hp).2 h1
  have h3 : mag t < one * 18446744073709551616 := by
    rw [Nat.mul_comm]
    exact Nat.lt_of_lt_of_le h1 (Nat.mul_le_mul_right _ (by omega))
  refine ⟨mag t / one, dbls top (mag t / one), h2, ?_, mag_of_u64 h2, rfl, to_u64 (by omega) h3, of_u64 h2⟩
  have h4 := dbls_le top (mag t / one)
  generalize dbls top (mag t / one) = X at *
  rw [top_eq] at h4
  omega

/-- Where the figure is a whole number the two are one. -/
theorem whole_same {t m F q : Nat} (hF : mag F = m * one) (hm : m = mag t / one) (hq : mag t = q * one) : t = F := by
  apply mag_inj
  have hp := one_pos
  have h1 : mag t / one = q := by rw [hq, Nat.mul_div_cancel _ hp]
  rw [hF, hm, h1, hq]

/-- What decompose returns: the two parts of V, in units of the least place. -/
def RetDec (V : Nat) (e : Ending) : Prop :=
  ∃ m : Nat, m < 9007199254740992 ∧ ((∃ k : Nat, k ≤ 1100 ∧ m * 2 ^ k * one = V ∧ e = .returned (.tuple #[.int .u64 (m : Int), .int .i64 (k : Int)])) ∨
    (∃ (j : Nat) (z : Int), 1 ≤ j ∧ j ≤ 1200 ∧ m * one = V * 2 ^ j ∧ z = -(j : Int) ∧ e = .returned (.tuple #[.int .u64 (m : Int), .int .i64 z])))

def Inv1 (r T k : Nat) : Prop := mag T * 2 ^ k = mag r ∧ T + k * 4503599627370496 = r ∧ (k = 0 ∨ 4841369599423283200 ≤ T)
def Inv2 (T U j : Nat) : Prop := mag U = mag T * 2 ^ j ∧ (4841369599423283200 ≤ T → j = 0)

theorem Inv1.start (r : Nat) : Inv1 r r 0 := ⟨by rw [Nat.pow_zero, Nat.mul_one], by omega, .inl rfl⟩
theorem Inv1.step {r T k : Nat} (h : Inv1 r T k) (hT : 4845873199050653696 ≤ T) : Inv1 r (T - 4503599627370496) (k + 1) := by
  obtain ⟨h1, h2, _⟩ := h
  refine ⟨?_, by omega, .inr (by omega)⟩
  rw [Nat.pow_succ, Nat.mul_comm (2 ^ k), ← Nat.mul_assoc, mag_half (by omega), h1]
theorem Inv1.bound {r T k : Nat} (h : Inv1 r T k) (hr : r < 9218868437227405312) (hT : T < 9218868437227405312 → 4845873199050653696 ≤ T) : k ≤ 971 := by
  obtain ⟨_, h2, _⟩ := h
  have := hT (by omega)
  omega

theorem Inv2.start (T : Nat) : Inv2 T T 0 := ⟨by rw [Nat.pow_zero, Nat.mul_one], fun _ => rfl⟩
theorem Inv2.step {T U j m F : Nat} (h : Inv2 T U j) (hU : U < 4845873199050653696) (hF : mag F = m * one) (hm : m = mag U / one) (hne : ¬ U = F) : Inv2 T (dbl U) (j + 1) ∧ dbl U < 4845873199050653696 ∧ j + 1 ≤ 1074 := by
  obtain ⟨h1, h2⟩ := h
  have hsmall : U < 4841369599423283200 := by
    rcases Nat.lt_or_ge U 4841369599423283200 with h | h
    · exact h
    · exact absurd (whole_same hF hm (mag_whole h hU)) hne
  have hj : j < 1074 := by
    rcases Nat.lt_or_ge j 1074 with h | h
    · exact h
    · refine absurd (whole_same (q := mag T * 2 ^ (j - top)) hF hm ?_) hne
      rw [h1]
      unfold one
      rw [Nat.mul_assoc, ← Nat.pow_add, show j - top + top = j by rw [top_eq]; omega]
  refine ⟨⟨?_, ?_⟩, ?_, hj⟩
  · rw [mag_dbl, h1, Nat.pow_succ, Nat.mul_comm 2, Nat.mul_assoc]
  · intro h
    have h3 := h2 h
    subst h3
    rw [Nat.pow_zero, Nat.mul_one] at h1
    have := mag_inj h1
    omega
  · have := dbl_le U
    omega

theorem dec_done {r T U k j m F : Nat} (h1 : Inv1 r T k) (h2 : Inv2 T U j) (hk : k ≤ 1000) (hj : j ≤ 1100) (hm1 : m < 9007199254740992) (hF : mag F = m * one) (he : U = F) : RetDec (mag r) (.returned (.tuple #[.int .u64 (m : Int), .int .i64 ((k : Int) - (j : Int))])) := by
  subst he
  obtain ⟨a1, a2, a3⟩ := h1
  obtain ⟨b1, b2⟩ := h2
  refine ⟨m, hm1, ?_⟩
  rcases Nat.eq_zero_or_pos j with hj0 | hj0
  · subst hj0
    refine .inl ⟨k, by omega, ?_, ?_⟩
    · rw [Nat.pow_zero, Nat.mul_one] at b1
      rw [Nat.mul_right_comm, ← hF, b1, a1]
    · rw [show (k : Int) - ((0 : Nat) : Int) = (k : Int) by omega]
  · have hk0 : k = 0 := by
      rcases a3 with h | h
      · exact h
      · have := b2 h
        omega
    subst hk0
    refine .inr ⟨j, -(j : Int), hj0, by omega, ?_, rfl, ?_⟩
    · rw [Nat.pow_zero, Nat.mul_one] at a1
      rw [← hF, b1, a1]
    · rw [show ((0 : Nat) : Int) - (j : Int) = -(j : Int) by omega]

set_option maxHeartbeats 2000000 in
set_option maxRecDepth 100000 in
theorem decompose_pos {x : Nat} (hr : x < 9218868437227405312) (hb : (FloatKind.f64.format.order x 0 == some .lt) = false) (w : World) :
    Calls Try.prog 11 #[.float .f64 x] w fun e w' => RetDec (mag x) e ∧ w' = w := by
  go_enter Try.func11, Try.ntmps11
  go_wp2_with fail
  clear hb
  go_loopw [4, 5, 6] (fun t e i wr => ∃ (k T : Nat), t = .float .f64 T ∧ e = .int .i64 k ∧ i = .int .i64 k ∧ T < 9218868437227405312 ∧ k ≤ 1000 ∧ wr = w ∧ Hid (Inv1 x T k)) (fun _ _ i _ => 1100 - (intOf i).toNat)
  case atStart => exact ⟨0, x, rfl, rfl, rfl, hr, by omega, rfl, hide (Inv1.start x)⟩
  case round =>
    obtain ⟨k, T, rfl, rfl, rfl, hT, hk, hwr, HI⟩ := hrel
    obtain rfl := hwr.symm
    clear hwr
    have hc := ge_pos (a := T) (b := 4845873199050653696) (by omega) (by omega)
    by_cases hge : 4845873199050653696 ≤ T
    · rw [decide_eq_true hge] at hc
      have hop : ∀ ty w, (binOp .quo ty (.float .f64 T) (.float .f64 4611686018427387904)).run Try.prog w = .ok (.float .f64 (T - 4503599627370496)) w := fun ty w => run_float_arith w .quo ty .f64 T _ _ (div_two hT (by omega))
      have hb := HI.out.bound hr (fun _ => hge)
      have hn := hide (HI.out.step hge)
      go_wp2_with fail
      exact ⟨⟨k + 1, T - 4503599627370496, rfl, by go_num, by go_num, by omega, by omega, trivial, hn⟩, by simp [intOf]; omega⟩
    · rw [decide_eq_false hge] at hc
      go_wp2_with fail
      go_loopw [4, 5, 7] (fun t e i wr => ∃ (j U : Nat), t = .float .f64 U ∧ e = .int .i64 ((k : Int) - (j : Int)) ∧ i = .int .i64 j ∧ U < 4845873199050653696 ∧ j ≤ 1074 ∧ wr = w ∧ Hid (Inv2 T U j)) (fun _ _ i _ => 1200 - (intOf i).toNat)
      case atStart => exact ⟨0, T, rfl, by go_num, rfl, by omega, by omega, rfl, hide (Inv2.start T)⟩
      case round =>
        clear hc
        obtain ⟨j, U, rfl, rfl, rfl, hU, hj, hwr, HJ⟩ := hrel
        obtain rfl := hwr.symm
        clear hwr
        obtain ⟨m, F, hm1, hF1, hF, hm, hI, hO⟩ := whole_part hU
        have hc : ∀ w, (convert 22 29 (.float .f64 U)).run Try.prog w = .ok (.int .u64 (m : Int)) w := fun w => run_convert_float_int w 22 29 .f64 .u64 U m (by rw [Try.underlying22]; rfl) Try.underlying29 hI
        have hc2 : ∀ w, (convert 29 22 (.int .u64 (m : Int))).run Try.prog w = .ok (.float .f64 F) w := by
          intro w
          rw [← hO]
          exact run_convert_int_float w 29 22 .u64 .f64 m (by rw [Try.underlying29]; rfl) Try.underlying22
        clear hO
        have he := ne_pos (a := U) (b := F) (by omega) hF1
        have hji : (j : Int) < 1200 := by omega
        by_cases heq : U = F
        · rw [decide_eq_true heq] at he
          change _ = false at he
          have e9 := dec_done HI.out HJ.out hk (by omega) hm1 hF heq
          clear hF hm hI heq
          go_wp2_with fail
          go_ret2
          exact ⟨e9, rfl⟩
        · rw [decide_eq_false heq] at he
          change _ = true at he
          obtain ⟨n1, n2, n3⟩ := HJ.out.step hU hF hm heq
          have hn := hide n1
          have hop : ∀ ty w, (binOp .mul ty (.float .f64 U) (.float .f64 4611686018427387904)).run Try.prog w = .ok (.float .f64 (dbl U)) w := fun ty w => run_float_arith w .mul ty .f64 U _ _ (mul_two (by omega))
          generalize dbl U = U2 at *
          clear hF hm hI heq n1
          go_wp2_with fail
          exact ⟨⟨j + 1, U2, rfl, by go_num, by go_num, n2, n3, trivial, hn⟩, by simp [intOf]; omega⟩

set_option maxHeartbeats 2000000 in
set_option maxRecDepth 100000 in
theorem decompose_neg {x r : Nat} (hr : r < 9218868437227405312) (hb : (FloatKind.f64.format.order x 0 == some .lt) = true) (hx : negF x = r) (w : World) :
    Calls Try.prog 11 #[.float .f64 x] w fun e w' => RetDec (mag r) e ∧ w' = w := by
  go_enter Try.func11, Try.ntmps11
  go_wp2_with fail
  clear hb
  go_loopw [4, 5, 6] (fun t e i wr => ∃ (k T : Nat), t = .float .f64 T ∧ e = .int .i64 k ∧ i = .int .i64 k ∧ T < 9218868437227405312 ∧ k ≤ 1000 ∧ wr = w ∧ Hid (Inv1 r T k)) (fun _ _ i _ => 1100 - (intOf i).toNat)
  case atStart => exact ⟨0, r, rfl, rfl, rfl, hr, by omega, rfl, hide (Inv1.start r)⟩
  case round =>
    obtain ⟨k, T, rfl, rfl, rfl, hT, hk, hwr, HI⟩ := hrel
    obtain rfl := hwr.symm
    clear hwr
    have hc := ge_pos (a := T) (b := 4845873199050653696) (by omega) (by omega)
    by_cases hge : 4845873199050653696 ≤ T
    · rw [decide_eq_true hge] at hc
      have hop : ∀ ty w, (binOp .quo ty (.float .f64 T) (.float .f64 4611686018427387904)).run Try.prog w = .ok (.float .f64 (T - 4503599627370496)) w := fun ty w => run_float_arith w .quo ty .f64 T _ _ (div_two hT (by omega))
      have hb := HI.out.bound hr (fun _ => hge)
      have hn := hide (HI.out.step hge)
      go_wp2_with fail
      exact ⟨⟨k + 1, T - 4503599627370496, rfl, by go_num, by go_num, by omega, by omega, trivial, hn⟩, by simp [intOf]; omega⟩
    · rw [decide_eq_false hge] at hc
      go_wp2_with fail
      go_loopw [4, 5, 7] (fun t e i wr => ∃ (j U : Nat), t = .float .f64 U ∧ e = .int .i64 ((k : Int) - (j : Int)) ∧ i = .int .i64 j ∧ U < 4845873199050653696 ∧ j ≤ 1074 ∧ wr = w ∧ Hid (Inv2 T U j)) (fun _ _ i _ => 1200 - (intOf i).toNat)
      case atStart => exact ⟨0, T, rfl, by go_num, rfl, by omega, by omega, rfl, hide (Inv2.start T)⟩
      case round =>
        clear hc
        obtain ⟨j, U, rfl, rfl, rfl, hU, hj, hwr, HJ⟩ := hrel
        obtain rfl := hwr.symm
        clear hwr
        obtain ⟨m, F, hm1, hF1, hF, hm, hI, hO⟩ := whole_part hU
        have hc : ∀ w, (convert 22 29 (.float .f64 U)).run Try.prog w = .ok (.int .u64 (m : Int)) w := fun w => run_convert_float_int w 22 29 .f64 .u64 U m (by rw [Try.underlying22]; rfl) Try.underlying29 hI
        have hc2 : ∀ w, (convert 29 22 (.int .u64 (m : Int))).run Try.prog w = .ok (.float .f64 F) w := by
          intro w
          rw [← hO]
          exact run_convert_int_float w 29 22 .u64 .f64 m (by rw [Try.underlying29]; rfl) Try.underlying22
        clear hO
        have he := ne_pos (a := U) (b := F) (by omega) hF1
        have hji : (j : Int) < 1200 := by omega
        by_cases heq : U = F
        · rw [decide_eq_true heq] at he
          change _ = false at he
          have e9 := dec_done HI.out HJ.out hk (by omega) hm1 hF heq
          clear hF hm hI heq
          go_wp2_with fail
          go_ret2
          exact ⟨e9, rfl⟩
        · rw [decide_eq_false heq] at he
          change _ = true at he
          obtain ⟨n1, n2, n3⟩ := HJ.out.step hU hF hm heq
          have hn := hide n1
          have hop : ∀ ty w, (binOp .mul ty (.float .f64 U) (.float .f64 4611686018427387904)).run Try.prog w = .ok (.float .f64 (dbl U)) w := fun ty w => run_float_arith w .mul ty .f64 U _ _ (mul_two (by omega))
          generalize dbl U = U2 at *
          clear hF hm hI heq n1
          go_wp2_with fail
          exact ⟨⟨j + 1, U2, rfl, by go_num, by go_num, n2, n3, trivial, hn⟩, by simp [intOf]; omega⟩

end Go.Proofs.Qxb6619276a
