import Derived.Test.Qxb6619276aRound
namespace Go.Proofs.Qxb6619276a

theorem ord_zero {x : Nat} (h : isNum x) : FloatKind.f64.format.order x 0 = some (compare (key x) 0) := by
  show ord x 0 = _
  have h0 : isNum 0 := by unfold isNum; decide
  have k0 : key 0 = 0 := by decide
  rw [order_num h h0, k0]

theorem neg_order {x : Nat} (h : isNum x) : (FloatKind.f64.format.order x 0 == some .lt) = (neg x && decide (0 < rung x)) := by
  rw [ord_zero h]
  have hm : 0 < rung x → 0 < mag (rung x) := fun h => by have := mag_mono h; omega
  unfold key
  by_cases h0 : 0 < rung x
  · have h1 := hm h0
    rw [decide_eq_true h0]
    generalize mag (rung x) = M at *
    cases neg x
    · simp only [Bool.false_eq_true, if_false]
      rw [Int.compare_eq_gt.2 (by omega)]; rfl
    · simp only [if_true]
      rw [Int.compare_eq_lt.2 (by omega)]; rfl
  · rw [decide_eq_false h0, show rung x = 0 by omega, mag_zero]
    cases neg x <;> rfl

theorem pos_order {x : Nat} (h : isNum x) : (FloatKind.f64.format.order x 0 == some .gt) = (!neg x && decide (0 < rung x)) := by
  rw [ord_zero h]
  have hm : 0 < rung x → 0 < mag (rung x) := fun h => by have := mag_mono h; omega
  unfold key
  by_cases h0 : 0 < rung x
  · have h1 := hm h0
    rw [decide_eq_true h0]
    generalize mag (rung x) = M at *
    cases neg x
    · simp only [Bool.false_eq_true, if_false]
      rw [Int.compare_eq_gt.2 (by omega)]; rfl
    · simp only [if_true]
      rw [Int.compare_eq_lt.2 (by omega)]; rfl
  · rw [decide_eq_false h0, show rung x = 0 by omega, mag_zero]
    cases neg x <;> rfl

/-- What roundAmount returns, by the plain quotient q and the sign. -/
def RetQ (g : Bool) (q : Nat) (e : Ending) : Prop :=
  e = .returned (.tuple (if q < 9223372036854775808 then #[.int .i64 (if g then -(q : Int) else (q : Int)), .bool true] else #[.int .i64 0, .bool false]))

theorem mul_det {m : Nat} (hm : m < 9007199254740992) : ∃ h l : Nat, h ≤ 1000 ∧ l < 18446744073709551616 ∧ h * 18446744073709551616 + l = m * 1000000 ∧
    ∀ w, Calls Try.prog 26 #[.int .u64 (m : Int), .int .u64 1000000] w fun e w' => e = .returned (.tuple #[.int .u64 (h : Int), .int .u64 (l : Int)]) ∧ w' = w := by
  refine ⟨m * 1000000 / 18446744073709551616, m * 1000000 % 18446744073709551616, by omega, by omega, by omega, fun w => ?_⟩
  refine (Mul64_any hm w).mono ?_
  rintro e w' ⟨⟨h, l, hl, hh, hp, rfl⟩, rfl⟩
  refine ⟨?_, rfl⟩
  have e1 : m * 1000000 / 18446744073709551616 = h := by omega
  have e2 : m * 1000000 % 18446744073709551616 = l := by omega
  rw [e1, e2]

theorem add_det {l H : Nat} (hl : l < 18446744073709551616) (hH : H < 18446744073709551616) : ∃ lo c : Nat, lo < 18446744073709551616 ∧ c ≤ 1 ∧ c * 18446744073709551616 + lo = l + H ∧
    ∀ w, (callFunc 27 #[.int .u64 (l : Int), .int .u64 (H : Int), .int .u64 0]).run Try.prog w = .ok (.value (.tuple #[.int .u64 (lo : Int), .int .u64 (c : Int)])) w := by
  refine ⟨(l + H) % 18446744073709551616, (l + H) / 18446744073709551616, by omega, by omega, by omega, fun w => ?_⟩
  rw [call_add64 _ _ (by omega) (by omega)]
  have e1 : ((l : Int) + (H : Int)) % 18446744073709551616 = (((l + H) % 18446744073709551616 : Nat) : Int) := by omega
  have e2 : ((l : Int) + (H : Int)) / 18446744073709551616 = (((l + H) / 18446744073709551616 : Nat) : Int) := by omega
  rw [e1, e2]

theorem two_words {h c l lo p H : Nat} (hp : h * 18446744073709551616 + l = p) (hlc : c * 18446744073709551616 + lo = l + H) : p + H = (h + c) * 18446744073709551616 + lo := by
  rw [Nat.add_mul]
  omega

theorem retQ_no {g : Bool} {Q : Nat} (h : ¬ Q < 9223372036854775808) : RetQ g Q (.returned (.tuple #[.int .i64 0, .bool false])) := by
  unfold RetQ
  rw [if_neg h]
theorem retQ_neg {Q : Nat} (h : Q < 9223372036854775808) : RetQ true Q (.returned (.tuple #[.int .i64 (-(Q : Int)), .bool true])) := by
  unfold RetQ
  rw [if_pos h]
  rfl
theorem retQ_pos {Q : Nat} (h : Q < 9223372036854775808) : RetQ false Q (.returned (.tuple #[.int .i64 (Q : Int), .bool true])) := by
  unfold RetQ
  rw [if_pos h]
  rfl

theorem over {Q : Nat} (h : (9223372036854775807 : Int) < (Q : Int)) : ¬ Q < 9223372036854775808 := by omega
theorem under {Q : Nat} (h : (Q : Int) ≤ (9223372036854775807 : Int)) : Q < 9223372036854775808 := by omega

theorem pow_parts {s : Nat} (hs : 1 ≤ s) (hs2 : s ≤ 63) : ∃ H S K : Nat, 2 ^ (s - 1) = H ∧ 2 ^ s = S ∧ 2 ^ (64 - s) = K ∧ (2 : Int) ^ (s - 1) = (H : Int) ∧ (2 : Int) ^ s = (S : Int) ∧ (2 : Int) ^ (64 - s) = (K : Int) ∧
    H ≤ 4611686018427387904 ∧ 0 < S ∧ 0 < K ∧ S * K = 18446744073709551616 := by
  refine ⟨_, _, _, rfl, rfl, rfl, by norm_cast, by norm_cast, by norm_cast, ?_, Nat.two_pow_pos _, Nat.two_pow_pos _, ?_⟩
  · rw [show 4611686018427387904 = 2 ^ 62 from rfl]
    exact Nat.pow_le_pow_right (by omega) (by omega)
  · rw [← Nat.pow_add, show s + (64 - s) = 64 by omega]

/-- The quotient of a number of two words, as the shifts make it. -/
theorem quot_small {N a lo S K s : Nat} (hS : 2 ^ s = S) (hK : 2 ^ (64 - s) = K) (hs2 : s ≤ 64) (hN : N = a * 18446744073709551616 + lo) (hlo : lo < 18446744073709551616) (ha : a < S) :
    a * K < 18446744073709551616 ∧ bits .or .u64 ((lo / S : Nat) : Int) ((a * K : Nat) : Int) = ((N / S : Nat) : Int) ∧ N / S < 18446744073709551616 := by
  have hSK : S * K = 18446744073709551616 := by
    rw [← hS, ← hK, ← Nat.pow_add, show s + (64 - s) = 64 by omega]
  have hS0 : 0 < S := by rw [← hS]; exact Nat.two_pow_pos _
  have hK0 : 0 < K := by rw [← hK]; exact Nat.two_pow_pos _
  have h1 : a * K < 18446744073709551616 := by
    rw [← hSK]
    exact Nat.mul_lt_mul_of_pos_right ha hK0
  have h2 : lo / S < K := by
    rw [Nat.div_lt_iff_lt_mul hS0, Nat.mul_comm, hSK]
    exact hlo
  have hKle : K ≤ 18446744073709551616 := by
    rw [← hSK]
    exact Nat.le_mul_of_pos_left _ hS0
  have h3 : N / S = a * K + lo / S := by
    rw [hN, ← hSK, show a * (S * K) + lo = lo + S * (a * K) by rw [Nat.mul_left_comm]; omega, Nat.add_mul_div_left _ _ hS0]
    omega
  refine ⟨h1, ?_, ?_⟩
  · rw [bits_or_u64_nat _ _ (by omega) h1, h3]
    have := Nat.two_pow_add_eq_or_of_lt (i := 64 - s) (b := lo / S) (by rw [hK]; exact h2) a
    rw [hK] at this
    rw [Nat.or_comm, Nat.mul_comm a K, ← this]
  · rw [h3]
    have h4 : a * K + K ≤ 18446744073709551616 := by
      rw [← Nat.succ_mul, ← hSK]
      exact Nat.mul_le_mul_right _ ha
    omega

set_option maxRecDepth 100000 in
theorem quot_big {N a lo S : Nat} (hS0 : 0 < S) (hN : N = a * 18446744073709551616 + lo) (ha : S ≤ a) : 9223372036854775808 ≤ N / S := by
  rw [Nat.le_div_iff_mul_le hS0, hN]
  have : S * 18446744073709551616 ≤ a * 18446744073709551616 := Nat.mul_le_mul_right _ ha
  omega

set_option maxHeartbeats 2000000 in
set_option maxRecDepth 100000 in
theorem round_small {x t f m s : Nat} {ex : Int} {g : Bool} (hex : 53 - ex = (s : Int)) (hx : x < 18446744073709551616) (hnan : nan x = false) (hinf : inf x = false) (hr : rung x = t)
    (hg : (FloatKind.f64.format.order x 0 == some .lt) = g)
    (hF : ∀ w, Calls Try.prog 23 #[.float .f64 t] w fun e w' => e = .returned (.tuple #[.float .f64 f, .int .i64 ex]) ∧ w' = w)
    (wf : Nat) (hL : ∀ w, Calls Try.prog 25 #[.float .f64 f, .int .i64 53] w fun e w' => e = .returned (.float .f64 wf) ∧ w' = w)
    (hI : floatToIntVal .f64 wf .u64 = some (m : Int)) (hm : m < 9007199254740992) (hs : 1 ≤ s) (hs2 : s ≤ 63) (w : World) :
    Calls Try.prog 16 #[.float .f64 x] w fun e w' => RetQ g ((m * 1000000 + 2 ^ (s - 1)) / 2 ^ s) e ∧ w' = w := by
  have hc : ∀ w, (convert 22 29 (.float .f64 wf)).run Try.prog w = .ok (.int .u64 (m : Int)) w := fun w => run_convert_float_int w 22 29 .f64 .u64 wf m (by rw [Try.underlying22]; rfl) Try.underlying29 hI
  have hN := isNaN_any x
  rw [hnan] at hN
  have hJ := isInf_any x hx
  rw [hinf] at hJ
  have hA := abs_any x hx
  rw [hr] at hA
  obtain ⟨h, l, hh, hl, hp, hM⟩ := mul_det hm
  obtain ⟨H, S, K, eH, eS, eK, p1, p2, p3, hH, hS0, hK0, hSK⟩ := pow_parts hs hs2
  rw [eH, eS]
  clear eH
  obtain ⟨lo, c, hlo, hc1, hlc, hadd⟩ : ∃ lo c : Nat, lo < 18446744073709551616 ∧ c ≤ 1 ∧ c * 18446744073709551616 + lo = l + H ∧
    ∀ w, (callFunc 27 #[.int .u64 (l : Int), .int .u64 (H : Int), .int .u64 0]).run Try.prog w = .ok (.value (.tuple #[.int .u64 (lo : Int), .int .u64 (c : Int)])) w := by
    refine add_det (l := l) (H := H) hl ?_
    clear eS eK p1 p2 p3 hSK
    omega
  have hN2 := two_words hp hlc
  clear hp hlc
  by_cases hbig : h + c < S
  · obtain ⟨q1, q2, q3⟩ := quot_small eS eK (by clear eS eK p1 p2 p3 hSK; omega) hN2 hlo hbig
    have e0 : ((h : Int) + (c : Int)) / (S : Int) = 0 := by
      clear eS eK p1 p2 p3 hSK
      exact Int.ediv_eq_zero_of_lt (by omega) (by omega)
    have wr : ((h : Int) + (c : Int)) * (K : Int) = ((((h + c) * K : Nat)) : Int) := by simp
    rw [Int.natCast_ediv] at q2
    generalize (m * 1000000 + H) / S = Q at *
    generalize (h + c) * K = X at *
    clear eS eK hSK hN2 hbig
    go_enter Try.func16, Try.ntmps16
    go_wp2_with (first
      | (go_at_call 22; refine (hJ _).mono ?_; rintro e w' ⟨rfl, rfl⟩)
      | (go_at_call 21; refine (hN _).mono ?_; rintro e w' ⟨rfl, rfl⟩)
      | (go_at_call 24; refine (hA _).mono ?_; rintro e w' ⟨rfl, rfl⟩)
      | (go_at_call 23; refine (hF _).mono ?_; rintro e w' ⟨rfl, rfl⟩)
      | (go_at_call 25; refine (hL _).mono ?_; rintro e w' ⟨rfl, rfl⟩)
      | (go_at_call 26; refine (hM _).mono ?_; rintro e w' ⟨rfl, rfl⟩))
    · have e9 := retQ_no (g := g) (over (Q := Q) (by assumption))
      go_ret2
      exact ⟨e9, rfl⟩
    · rename_i hg2
      have e9 := retQ_neg (under (Q := Q) (by assumption))
      rw [hg2]
      go_ret2
      exact ⟨e9, rfl⟩
    · rename_i hg2
      have e9 := retQ_pos (under (Q := Q) (by assumption))
      rw [hg2]
      go_ret2
      exact ⟨e9, rfl⟩
  · have q1 := quot_big hS0 hN2 (by omega)
    have e0 : (((h : Int) + (c : Int)) / (S : Int) != 0) = true := by
      clear eS eK p1 p2 p3 hSK
      have h1 : 1 ≤ ((h : Int) + (c : Int)) / (S : Int) := by
        rw [Int.le_ediv_iff_mul_le (by omega)]
        omega
      generalize ((h : Int) + (c : Int)) / (S : Int) = z at *
      simp
      omega
    generalize (m * 1000000 + H) / S = Q at *
    clear eS eK hSK hN2 hbig
    go_enter Try.func16, Try.ntmps16
    go_wp2_with (first
      | (go_at_call 22; refine (hJ _).mono ?_; rintro e w' ⟨rfl, rfl⟩)
      | (go_at_call 21; refine (hN _).mono ?_; rintro e w' ⟨rfl, rfl⟩)
      | (go_at_call 24; refine (hA _).mono ?_; rintro e w' ⟨rfl, rfl⟩)
      | (go_at_call 23; refine (hF _).mono ?_; rintro e w' ⟨rfl, rfl⟩)
      | (go_at_call 25; refine (hL _).mono ?_; rintro e w' ⟨rfl, rfl⟩)
      | (go_at_call 26; refine (hM _).mono ?_; rintro e w' ⟨rfl, rfl⟩))
    have e9 := retQ_no (g := g) (Nat.not_lt.2 q1)
    go_ret2
    exact ⟨e9, rfl⟩
end Go.Proofs.Qxb6619276a
