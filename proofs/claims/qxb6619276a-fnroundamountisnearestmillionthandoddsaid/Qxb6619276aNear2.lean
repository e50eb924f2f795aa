import Derived.Test.Qxb6619276aNear
namespace Go.Proofs.Qxb6619276a
open Go.RowKit

/-- The two parts of V. -/
def Dec (V m : Nat) (z : Int) : Prop := (∃ k : Nat, m * 2 ^ k * one = V ∧ z = (k : Int)) ∨ (∃ j : Nat, 1 ≤ j ∧ j ≤ 1200 ∧ m * one = V * 2 ^ j ∧ z = -(j : Int))

def RetDec2 (V : Nat) (e : Ending) : Prop := ∃ (m : Nat) (z : Int), m < 9007199254740992 ∧ Dec V m z ∧ e = .returned (.tuple #[.int .u64 (m : Int), .int .i64 z])

theorem RetDec.two {V : Nat} {e : Ending} (h : RetDec V e) : RetDec2 V e := by
  obtain ⟨m, hm, h⟩ := h
  rcases h with ⟨k, _, h2, h3⟩ | ⟨j, z, h1, h2, h3, h4, h5⟩
  · exact ⟨m, k, hm, .inl ⟨k, h2, rfl⟩, h3⟩
  · exact ⟨m, z, hm, .inr ⟨j, h1, h2, h3, h4⟩, h5⟩

theorem decompose_two {x : Nat} (hx : x < 18446744073709551616) (hf : rung x < 9218868437227405312) (w : World) : Calls Try.prog 11 #[.float .f64 x] w fun e w' => RetDec2 (mag (rung x)) e ∧ w' = w := by
  refine (decompose_all hx hf w).mono ?_
  rintro e w' ⟨h, rfl⟩
  exact ⟨h.two, rfl⟩

theorem sgn_scale (A B c : Nat) (hc : 0 < c) : sgn (A * c) (B * c) = sgn A B := by
  unfold sgn
  have h1 : A * c < B * c ↔ A < B := Nat.mul_lt_mul_right hc
  have h2 : A * c = B * c ↔ A = B := Nat.mul_left_inj (by omega)
  simp only [h1, h2]

/-- cmpScaled over the parts that decompose gives: the exact comparison. -/
def CmpAt (V ph pl : Nat) (z : Int) : Prop := ∀ (n : Nat) (i : Int), i = (n : Int) → n < 18446744073709551616 → ∀ w, Calls Try.prog 13 #[.int .u64 (ph : Int), .int .u64 (pl : Int), .int .i64 z, .int .u64 i] w fun r w' => r = .returned (.int .i64 (sgn (2000000 * V) (n * one))) ∧ w' = w

theorem cmp_at {V m ph pl : Nat} {z : Int} (hD : Dec V m z) (h1 : ph < 18446744073709551616) (h2 : pl < 18446744073709551616) (hp : ph * 18446744073709551616 + pl = m * 2000000) : CmpAt V ph pl z := by
  intro n i hi hn w
  subst hi
  have ho := one_pos
  rcases hD with ⟨k, a1, rfl⟩ | ⟨j, a1, a2, a3, rfl⟩
  · have e : sgn (2000000 * V) (n * one) = sgn ((ph * 18446744073709551616 + pl) * 2 ^ k) n := by
      have key : ∀ O : Nat, 2000000 * (m * 2 ^ k * O) = m * 2000000 * 2 ^ k * O := fun O => by
        rw [Nat.mul_comm m 2000000, ← Nat.mul_assoc, ← Nat.mul_assoc]
      rw [← sgn_scale _ n one ho, hp, ← a1, key]
    rw [e]
    exact scaled_pos h1 h2 hn w
  · have hj := Nat.two_pow_pos j
    have e : sgn (2000000 * V) (n * one) = sgn (ph * 18446744073709551616 + pl) (n * 2 ^ j) := by
      rw [← sgn_scale _ (n * 2 ^ j) one ho, hp, Nat.mul_comm m 2000000, Nat.mul_assoc 2000000 m one, a3, ← Nat.mul_assoc, Nat.mul_right_comm n, sgn_scale _ _ _ hj]
    rw [e]
    exact scaled_neg h1 h2 hn a1 (by omega) rfl w

theorem CmpAt.lt {V ph pl n : Nat} {z i : Int} (h : CmpAt V ph pl z) (hlt : 2000000 * V < n * one) (hn : n < 18446744073709551616) (hi : i = (n : Int)) (w : World) :
    Calls Try.prog 13 #[.int .u64 (ph : Int), .int .u64 (pl : Int), .int .i64 z, .int .u64 i] w fun r w' => r = .returned (.int .i64 (-1)) ∧ w' = w := by
  have := h n i hi hn w
  rwa [sgn_lt hlt] at this

theorem CmpAt.ge {V ph pl n : Nat} {z i : Int} (h : CmpAt V ph pl z) (hge : n * one ≤ 2000000 * V) (hn : n < 18446744073709551616) (hi : i = (n : Int)) (w : World) :
    Calls Try.prog 13 #[.int .u64 (ph : Int), .int .u64 (pl : Int), .int .i64 z, .int .u64 i] w fun r w' => (∃ s : Int, 0 ≤ s ∧ s ≤ 1 ∧ r = .returned (.int .i64 s)) ∧ w' = w := by
  refine (h n i hi hn w).mono ?_
  rintro r w' ⟨rfl, rfl⟩
  refine ⟨⟨_, ?_, ?_, rfl⟩, rfl⟩
  · unfold sgn
    rw [if_neg (by omega)]
    split <;> omega
  · unfold sgn
    rw [if_neg (by omega)]
    split <;> omega

/-! The plain law -/
theorem quo_upper (V : Nat) : 2000000 * V < (2 * quo V + 1) * one := by
  have ho := one_pos
  unfold quo
  have h1 := Nat.lt_mul_div_succ (2000000 * V + one) (show 0 < 2 * one by omega)
  generalize (2000000 * V + one) / (2 * one) = q at *
  have e1 : 2 * one * (q + 1) = 2 * q * one + 2 * one := by
    rw [Nat.mul_add, Nat.mul_one, Nat.mul_right_comm]
  have e2 : (2 * q + 1) * one = 2 * q * one + one := by
    rw [Nat.add_mul, Nat.one_mul]
  rw [e1] at h1
  rw [e2]
  omega

theorem quo_lower (V : Nat) : (2 * quo V - 1) * one ≤ 2000000 * V := by
  unfold quo
  have h1 := Nat.div_mul_le_self (2000000 * V + one) (2 * one)
  generalize (2000000 * V + one) / (2 * one) = q at *
  have e2 : (2 * q - 1) * one = 2 * q * one - one := by
    rw [Nat.sub_mul, Nat.one_mul]
  have e3 : q * (2 * one) = 2 * q * one := by
    rw [← Nat.mul_assoc, Nat.mul_comm q 2]
  rw [e3] at h1
  rw [e2]
  omega

theorem quo_none {V : Nat} (h : ¬ quo V < 9223372036854775808) : 18446744073709551615 * one ≤ 2000000 * V := by
  have ho := one_pos
  unfold quo at h
  rw [Nat.not_lt, Nat.le_div_iff_mul_le (by omega)] at h
  generalize one = O at *
  omega

/-! ### isNearestMillionth -/

theorem near_not {x : Nat} (hf : ¬ rung x < 9218868437227405312) (w : World) : Calls Try.prog 8 #[.float .f64 x, .int .i64 0, .bool false] w fun e w' => e = .returned (.bool true) ∧ w' = w := by
  have hF := isFinite_any x
  rw [decide_eq_false hf] at hF
  go_enter Try.func8, Try.ntmps8
  go_wp2_with (go_at_call 10; refine (hF _).mono ?_; rintro e w' ⟨rfl, rfl⟩)
  go_ret
  exact ⟨rfl, rfl⟩

set_option maxHeartbeats 2000000 in
set_option maxRecDepth 100000 in
theorem near_big {x : Nat} (hx : x < 18446744073709551616) (hf : rung x < 9218868437227405312) (hq : ¬ quo (mag (rung x)) < 9223372036854775808) (w : World) :
    Calls Try.prog 8 #[.float .f64 x, .int .i64 0, .bool false] w fun e w' => e = .returned (.bool true) ∧ w' = w := by
  have hF := isFinite_any x
  rw [decide_eq_true hf] at hF
  have hD := decompose_two hx hf
  have hV := quo_none hq
  clear hq hf
  generalize mag (rung x) = V at *
  have HV := hide hV
  clear hV
  go_enter Try.func8, Try.ntmps8
  go_wp2_with (first
    | (go_at_call 10; refine (hF _).mono ?_; rintro e w' ⟨rfl, rfl⟩)
    | (go_at_call 11; refine (hD _).mono ?_; rintro e w' ⟨⟨m, z, hm, hdec, rfl⟩, rfl⟩)
    | (go_at_call 12; refine (twice_any hm _).mono ?_; rintro e w' ⟨⟨ph, pl, hpl, hph, hp, rfl⟩, rfl⟩; have hC := cmp_at hdec hph hpl hp; clear hdec hp)
    | (go_at_call 13; refine (CmpAt.ge (n := 18446744073709551615) hC HV.out (by omega) rfl _).mono ?_; rintro e w' ⟨⟨s, s0, s1, rfl⟩, rfl⟩))
  go_ret
  exact ⟨rfl, rfl⟩

/-! The law's own test at an amount a whose size is q. -/
set_option maxHeartbeats 2000000 in
set_option maxRecDepth 100000 in
theorem near_zero {x V q : Nat} (hF : ∀ w, Calls Try.prog 10 #[.float .f64 x] w fun e w' => e = .returned (.bool true) ∧ w' = w)
    (hD : ∀ w, Calls Try.prog 11 #[.float .f64 x] w fun e w' => RetDec2 V e ∧ w' = w) (hq : q < 9223372036854775808) (hu : 2000000 * V < (2 * q + 1) * one) (hl : (2 * q - 1) * one ≤ 2000000 * V) (h0 : q = 0) (g1 g2 : Bool) (hg1 : (FloatKind.f64.format.order x 0 == some .gt) = g1) (hg2 : (FloatKind.f64.format.order x 0 == some .lt) = g2) (w : World) :
    Calls Try.prog 8 #[.float .f64 x, .int .i64 0, .bool true] w fun e w' => e = .returned (.bool true) ∧ w' = w := by
  have HU := hide hu
  have HL := hide hl
  clear hu hl
  cases g1 <;> cases g2
  all_goals subst h0
  all_goals clear HL hq
  all_goals
    go_enter Try.func8, Try.ntmps8
    go_wp2_with (first
      | (go_at_call 10; refine (hF _).mono ?_; rintro e w' ⟨rfl, rfl⟩)
      | (go_at_call 11; refine (hD _).mono ?_; rintro e w' ⟨⟨m, z, hm, hdec, rfl⟩, rfl⟩)
      | (go_at_call 12; refine (twice_any hm _).mono ?_; rintro e w' ⟨⟨ph, pl, hpl, hph, hp, rfl⟩, rfl⟩; have hC := cmp_at hdec hph hpl hp; clear hdec hp)
      | (go_at_call 13; refine (CmpAt.lt (n := 2 * 0 + 1) hC HU.out (by omega) (by omega) _).mono ?_; rintro e w' ⟨rfl, rfl⟩))
    go_ret
    exact ⟨rfl, rfl⟩

set_option maxHeartbeats 2000000 in
set_option maxRecDepth 100000 in
theorem near_neg {x V q : Nat} (hF : ∀ w, Calls Try.prog 10 #[.float .f64 x] w fun e w' => e = .returned (.bool true) ∧ w' = w)
    (hD : ∀ w, Calls Try.prog 11 #[.float .f64 x] w fun e w' => RetDec2 V e ∧ w' = w) (hq : q < 9223372036854775808) (hu : 2000000 * V < (2 * q + 1) * one) (hl : (2 * q - 1) * one ≤ 2000000 * V) (h0 : 0 < q) (hg1 : (FloatKind.f64.format.order x 0 == some .gt) = false) (hg2 : (FloatKind.f64.format.order x 0 == some .lt) = true) (w : World) :
    Calls Try.prog 8 #[.float .f64 x, .int .i64 (-(q : Int)), .bool true] w fun e w' => e = .returned (.bool true) ∧ w' = w := by
  have HU := hide hu
  have HL := hide hl
  clear hu hl
  have hqi : (0 : Int) < (q : Int) := by omega
  go_enter Try.func8, Try.ntmps8
  go_wp2_with (first
    | (go_at_call 10; refine (hF _).mono ?_; rintro e w' ⟨rfl, rfl⟩)
    | (go_at_call 11; refine (hD _).mono ?_; rintro e w' ⟨⟨m, z, hm, hdec, rfl⟩, rfl⟩)
    | (go_at_call 12; refine (twice_any hm _).mono ?_; rintro e w' ⟨⟨ph, pl, hpl, hph, hp, rfl⟩, rfl⟩; have hC := cmp_at hdec hph hpl hp; clear hdec hp)
    | (go_at_call 13; refine (CmpAt.lt (n := 2 * q + 1) hC HU.out (by omega) (by omega) _).mono ?_; rintro e w' ⟨rfl, rfl⟩)
    | (go_at_call 13; refine (CmpAt.ge (n := 2 * q - 1) hC HL.out (by omega) (by omega) _).mono ?_; rintro e w' ⟨⟨s, s0, s1, rfl⟩, rfl⟩))
  go_ret
  exact ⟨rfl, rfl⟩

set_option maxHeartbeats 2000000 in
set_option maxRecDepth 100000 in
theorem near_pos {x V q : Nat} (hF : ∀ w, Calls Try.prog 10 #[.float .f64 x] w fun e w' => e = .returned (.bool true) ∧ w' = w)
    (hD : ∀ w, Calls Try.prog 11 #[.float .f64 x] w fun e w' => RetDec2 V e ∧ w' = w) (hq : q < 9223372036854775808) (hu : 2000000 * V < (2 * q + 1) * one) (hl : (2 * q - 1) * one ≤ 2000000 * V) (h0 : 0 < q) (hg1 : (FloatKind.f64.format.order x 0 == some .gt) = true) (hg2 : (FloatKind.f64.format.order x 0 == some .lt) = false) (w : World) :
    Calls Try.prog 8 #[.float .f64 x, .int .i64 (q : Int), .bool true] w fun e w' => e = .returned (.bool true) ∧ w' = w := by
  have HU := hide hu
  have HL := hide hl
  clear hu hl
  have hqi : (0 : Int) < (q : Int) := by omega
  go_enter Try.func8, Try.ntmps8
  go_wp2_with (first
    | (go_at_call 10; refine (hF _).mono ?_; rintro e w' ⟨rfl, rfl⟩)
    | (go_at_call 11; refine (hD _).mono ?_; rintro e w' ⟨⟨m, z, hm, hdec, rfl⟩, rfl⟩)
    | (go_at_call 12; refine (twice_any hm _).mono ?_; rintro e w' ⟨⟨ph, pl, hpl, hph, hp, rfl⟩, rfl⟩; have hC := cmp_at hdec hph hpl hp; clear hdec hp)
    | (go_at_call 13; refine (CmpAt.lt (n := 2 * q + 1) hC HU.out (by omega) (by omega) _).mono ?_; rintro e w' ⟨rfl, rfl⟩)
    | (go_at_call 13; refine (CmpAt.ge (n := 2 * q - 1) hC HL.out (by omega) (by omega) _).mono ?_; rintro e w' ⟨⟨s, s0, s1, rfl⟩, rfl⟩))
  go_ret
  exact ⟨rfl, rfl⟩

end Go.Proofs.Qxb6619276a
