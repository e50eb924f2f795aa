import Derived.Test.Qxb6619276aRound3
namespace Go.Proofs.Qxb6619276a

/-- Is the figure below zero? -/
def below (x : Nat) : Bool := neg x && decide (0 < rung x)

/-- What roundAmount returns. -/
def RetRound (x : Nat) (e : Ending) : Prop :=
  if rung x < 9218868437227405312 then RetQ (below x) (quo (mag (rung x))) e else e = .returned (.tuple #[.int .i64 0, .bool false])

theorem quo_far {V : Nat} (h : 4503599627370496 * one ≤ V) : ¬ quo V < 9223372036854775808 := by
  have hp := one_pos
  unfold quo
  rw [Nat.not_lt, Nat.le_div_iff_mul_le (by omega)]
  generalize one = O at *
  omega

theorem quo_zero : quo 0 = 0 := by
  have hp := one_pos
  unfold quo
  generalize one = O at *
  exact Nat.div_eq_of_lt (by omega)

theorem zero_int : floatToIntVal .f64 0 .u64 = some ((0 : Nat) : Int) := by
  have hp := one_pos
  have h := to_u64 (t := 0) (by omega) (by rw [mag_zero]; exact Nat.mul_pos hp (by omega))
  rw [h, mag_zero, Nat.zero_div]

theorem round_any {x : Nat} (hx : x < 18446744073709551616) (w : World) : Calls Try.prog 16 #[.float .f64 x] w fun e w' => RetRound x e ∧ w' = w := by
  unfold RetRound
  by_cases hfin : rung x < 9218868437227405312
  · simp only [if_pos hfin]
    have hnan : nan x = false := by unfold nan; exact decide_eq_false (by omega)
    have hinf : inf x = false := by unfold inf; exact decide_eq_false (by omega)
    have hg : (FloatKind.f64.format.order x 0 == some .lt) = below x := neg_order (by unfold isNum; omega)
    rcases Nat.eq_zero_or_pos (rung x) with h0 | h0
    · have h := round_small (m := 0) (s := 53) (ex := 0) rfl hx hnan hinf h0 hg Frexp_zero 0 Ldexp_zero zero_int (by omega) (by omega) (by omega) w
      rw [h0, mag_zero, quo_zero]
      rw [show (0 * 1000000 + 2 ^ (53 - 1)) / 2 ^ 53 = 0 from by decide] at h
      exact h
    · have hb := mOf_bounds (rung x)
      have hfb := frF_bounds (rung x)
      by_cases he : 53 ≤ frE (rung x)
      · have h := round_exp he hx hnan hinf rfl (Frexp_any h0 hfin) w
        refine h.mono ?_
        rintro e w' ⟨rfl, rfl⟩
        exact ⟨retQ_no (quo_far (frexp_far h0 hfin he)), rfl⟩
      · obtain ⟨s, e1, e2, e3, e4⟩ := frexp_near h0 hfin (by omega)
        rw [quo_of e2 e4]
        have hex : 53 - frE (rung x) = (s : Int) := by omega
        rcases Nat.lt_or_ge s 64 with c1 | c1
        · exact round_small hex hx hnan hinf rfl hg (Frexp_any h0 hfin) _ (Ldexp_any hfb.1 hfb.2.1) (whole_int _) hb.2 e2 (by omega) w
        · rcases Nat.lt_or_ge s 65 with c2 | c2
          · exact round_64 hex hx hnan hinf rfl hg (Frexp_any h0 hfin) _ (Ldexp_any hfb.1 hfb.2.1) (whole_int _) hb.2 (by omega) w
          · rcases Nat.lt_or_ge s 74 with c3 | c3
            · exact round_mid hex hx hnan hinf rfl hg (Frexp_any h0 hfin) _ (Ldexp_any hfb.1 hfb.2.1) (whole_int _) hb.2 c2 (by omega) w
            · exact round_tiny hex hx hnan hinf rfl hg (Frexp_any h0 hfin) _ (Ldexp_any hfb.1 hfb.2.1) (whole_int _) hb.2 c3 (by omega) w
  · simp only [if_neg hfin]
    exact round_not hx (by omega) w

/-- The amount and whether there is one, as plain values. -/
def am (x : Nat) : Int := if rung x < 9218868437227405312 then (if quo (mag (rung x)) < 9223372036854775808 then (if below x then -(quo (mag (rung x)) : Int) else (quo (mag (rung x)) : Int)) else 0) else 0
def okay (x : Nat) : Bool := if rung x < 9218868437227405312 then decide (quo (mag (rung x)) < 9223372036854775808) else false

theorem ret_eq {x : Nat} {e : Ending} (h : RetRound x e) : e = .returned (.tuple #[.int .i64 (am x), .bool (okay x)]) := by
  unfold RetRound at h
  unfold am okay
  by_cases h1 : rung x < 9218868437227405312
  · rw [if_pos h1] at h
    rw [if_pos h1, if_pos h1, h]
    by_cases h2 : quo (mag (rung x)) < 9223372036854775808
    · rw [if_pos h2, if_pos h2, decide_eq_true h2]
    · rw [if_neg h2, if_neg h2, decide_eq_false h2]
  · rw [if_neg h1] at h
    rw [if_neg h1, if_neg h1, h]

theorem ZZround_any {x : Nat} (hx : x < 18446744073709551616) (w : World) : Calls Try.prog 7 #[.float .f64 x] w fun e w' => e = .returned (.tuple #[.int .i64 (am x), .bool (okay x)]) ∧ w' = w := by
  have h : ∀ w, Calls Try.prog 16 #[.float .f64 x] w fun e w' => e = .returned (.tuple #[.int .i64 (am x), .bool (okay x)]) ∧ w' = w := by
    intro w
    refine (round_any hx w).mono ?_
    rintro e w' ⟨h1, rfl⟩
    exact ⟨ret_eq h1, rfl⟩
  generalize am x = a at *
  generalize okay x = b at *
  go_enter Try.func7, Try.ntmps7
  go_wp2_with (go_at_call 16; refine (h _).mono ?_; rintro e w' ⟨rfl, rfl⟩)
  go_ret2
  exact ⟨rfl, rfl⟩
end Go.Proofs.Qxb6619276a
