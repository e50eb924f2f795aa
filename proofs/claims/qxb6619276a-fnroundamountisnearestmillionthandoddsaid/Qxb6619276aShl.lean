import Derived.Test.Qxb6619276aCmp
namespace Go.Proofs.Qxb6619276a

/-- What shl128 returns: bits were lost, or the two words hold the number. -/
def RetShl (N : Nat) (e : Ending) : Prop :=
  (340282366920938463463374607431768211456 ≤ N ∧ ∃ h l : Int, e = .returned (.tuple #[.int .u64 h, .int .u64 l, .bool true])) ∨
  (N < 340282366920938463463374607431768211456 ∧ e = .returned (.tuple #[.int .u64 ((N / 18446744073709551616 : Nat) : Int), .int .u64 ((N % 18446744073709551616 : Nat) : Int), .bool false]))

theorem fits {h l N : Nat} (hh : h < 18446744073709551616) (hl : l < 18446744073709551616) (hN : h * 18446744073709551616 + l = N) :
    RetShl N (.returned (.tuple #[.int .u64 (h : Int), .int .u64 (l : Int), .bool false])) := by
  refine .inr ⟨by omega, ?_⟩
  have e1 : N / 18446744073709551616 = h := by omega
  have e2 : N % 18446744073709551616 = l := by omega
  rw [e1, e2]

/-- A shift by less than a word. -/
theorem shl_low {hi lo s S K : Nat} (hlo : lo < 18446744073709551616) (hS : 2 ^ s = S) (hK : 2 ^ (64 - s) = K) (hs : s ≤ 64) (hhi : hi < K) :
    hi * S < 18446744073709551616 ∧ bits .or .u64 ((hi * S : Nat) : Int) ((lo / K : Nat) : Int) = ((hi * S + lo / K : Nat) : Int) ∧ hi * S + lo / K < 18446744073709551616 ∧
      lo * S % 18446744073709551616 < 18446744073709551616 ∧ (hi * S + lo / K) * 18446744073709551616 + lo * S % 18446744073709551616 = (hi * 18446744073709551616 + lo) * S := by
  have hSK : K * S = 18446744073709551616 := by
    rw [← hS, ← hK, ← Nat.pow_add, show 64 - s + s = 64 by omega]
  have hS0 : 0 < S := by rw [← hS]; exact Nat.two_pow_pos _
  have hK0 : 0 < K := by rw [← hK]; exact Nat.two_pow_pos _
  have h1 : hi * S < 18446744073709551616 := by
    rw [← hSK]
    exact Nat.mul_lt_mul_of_pos_right hhi hS0
  have h2 : lo / K < S := by
    rw [Nat.div_lt_iff_lt_mul hK0, Nat.mul_comm, hSK]
    exact hlo
  have h4 : hi * S + S ≤ 18446744073709551616 := by
    rw [← Nat.succ_mul, ← hSK]
    exact Nat.mul_le_mul_right _ hhi
  have hSle : S ≤ 18446744073709551616 := by omega
  refine ⟨h1, ?_, by omega, Nat.mod_lt _ (by omega), ?_⟩
  · rw [bits_or_u64_nat _ _ h1 (by omega)]
    have := Nat.two_pow_add_eq_or_of_lt (i := s) (b := lo / K) (by rw [hS]; exact h2) hi
    rw [hS] at this
    rw [Nat.mul_comm hi S, ← this]
  · have e1 : lo * S = lo / K * 18446744073709551616 + lo * S % 18446744073709551616 := by
      have e2 : lo * S / 18446744073709551616 = lo / K := by
        rw [← hSK, Nat.mul_div_mul_right _ _ hS0]
      rw [← e2]
      omega
    rw [Nat.add_mul, Nat.add_mul, Nat.mul_right_comm hi S]
    omega

theorem shl_lost {hi lo s S K : Nat} (hS : 2 ^ s = S) (hK : 2 ^ (64 - s) = K) (hs : s ≤ 64) (hhi : K ≤ hi) :
    340282366920938463463374607431768211456 ≤ (hi * 18446744073709551616 + lo) * S := by
  have hSK : K * S = 18446744073709551616 := by
    rw [← hS, ← hK, ← Nat.pow_add, show 64 - s + s = 64 by omega]
  have h1 : K * S * 18446744073709551616 ≤ (hi * 18446744073709551616 + lo) * S := by
    rw [Nat.mul_right_comm]
    refine Nat.mul_le_mul_right _ ?_
    exact Nat.le_trans (Nat.mul_le_mul_right 18446744073709551616 hhi) (Nat.le_add_right _ _)
  rw [hSK] at h1
  exact h1

set_option maxHeartbeats 2000000 in
theorem shl128_low {hi lo s : Nat} (hhi : hi < 18446744073709551616) (hlo : lo < 18446744073709551616) (hs : 1 ≤ s) (hs2 : s ≤ 63) (w : World) :
    Calls Try.prog 18 #[.int .u64 (hi : Int), .int .u64 (lo : Int), .int .u64 (s : Int)] w fun e w' => RetShl ((hi * 18446744073709551616 + lo) * 2 ^ s) e ∧ w' = w := by
  obtain ⟨H, S, K, eH, eS, eK, p1, p2, p3, hH, hS0, hK0, hSK⟩ := pow_parts hs hs2
  rw [eS]
  by_cases hb : hi < K
  · obtain ⟨q1, q2, q3, q4, q5⟩ := shl_low hlo eS eK (by omega) hb
    have e9 := fits q3 q4 q5
    have e0 : (hi : Int) / (K : Int) = 0 := by
      clear eS eK p1 p2 p3 hSK q1 q2 q3 q4 q5 e9 eH
      exact Int.ediv_eq_zero_of_lt (by omega) (by omega)
    have m1 : (hi : Int) * (S : Int) = ((hi * S : Nat) : Int) := by norm_cast
    have m2 : IntKind.u64.wrap ((lo : Int) * (S : Int)) = ((lo * S % 18446744073709551616 : Nat) : Int) := by
      rw [IntKind.wrap_u64, Int.natCast_emod, Int.natCast_mul]
      rfl
    have m3 : (lo : Int) / (K : Int) = ((lo / K : Nat) : Int) := by norm_cast
    generalize (hi * 18446744073709551616 + lo) * S = N at *
    generalize lo * S % 18446744073709551616 = l2 at *
    generalize hi * S + lo / K = h2 at *
    generalize hi * S = hS at *
    generalize lo / K = lK at *
    clear eH eS eK hSK q5
    go_enter Try.func18, Try.ntmps18
    go_wp2
    go_ret3
    exact ⟨e9, rfl⟩
  · have q1 := shl_lost (lo := lo) eS eK (by omega) (Nat.le_of_not_lt hb)
    have e0 : ((hi : Int) / (K : Int) != 0) = true := by
      clear eS eK p1 p2 p3 hSK q1 eH
      have h1 : 1 ≤ (hi : Int) / (K : Int) := by
        rw [Int.le_ediv_iff_mul_le (by omega)]
        omega
      generalize (hi : Int) / (K : Int) = z at *
      simp
      omega
    generalize (hi * 18446744073709551616 + lo) * S = N at *
    clear eH eS eK hSK
    go_enter Try.func18, Try.ntmps18
    go_wp2
    go_ret3
    exact ⟨.inl ⟨q1, _, _, rfl⟩, rfl⟩

theorem shl_high {lo s S K : Nat} (hS : 2 ^ (s - 64) = S) (hK : 2 ^ (128 - s) = K) (hs : 65 ≤ s) (hs2 : s ≤ 127) :
    2 ^ s = S * 18446744073709551616 ∧ 0 < K ∧ (lo < K → lo * S < 18446744073709551616) ∧ (K ≤ lo → 340282366920938463463374607431768211456 ≤ lo * (S * 18446744073709551616)) := by
  have hSK : K * S = 18446744073709551616 := by
    rw [← hS, ← hK, ← Nat.pow_add, show 128 - s + (s - 64) = 64 by omega]
  have hS0 : 0 < S := by rw [← hS]; exact Nat.two_pow_pos _
  have hK0 : 0 < K := by rw [← hK]; exact Nat.two_pow_pos _
  refine ⟨?_, hK0, ?_, ?_⟩
  · rw [← hS, show 18446744073709551616 = 2 ^ 64 from rfl, ← Nat.pow_add]
    congr 1
    omega
  · intro h
    rw [← hSK]
    exact Nat.mul_lt_mul_of_pos_right h hS0
  · intro h
    have h1 := Nat.mul_le_mul_right (S * 18446744073709551616) h
    rw [← Nat.mul_assoc, hSK] at h1
    exact h1

theorem high_parts {s : Nat} (hs : 65 ≤ s) (hs2 : s ≤ 127) : ∃ S K : Nat, 2 ^ (s - 64) = S ∧ 2 ^ (128 - s) = K ∧ (2 : Int) ^ (s - 64) = (S : Int) ∧ (2 : Int) ^ (128 - s) = (K : Int) ∧ 1 ≤ S ∧ 1 ≤ K :=
  have _ := hs
  have _ := hs2
  ⟨_, _, rfl, rfl, by norm_cast, by norm_cast, Nat.two_pow_pos _, Nat.two_pow_pos _⟩

theorem big_mul {A S : Nat} (h1 : 18446744073709551616 ≤ A) (hS : 1 ≤ S) : 340282366920938463463374607431768211456 ≤ A * (S * 18446744073709551616) := by
  have h2 : 18446744073709551616 ≤ S * 18446744073709551616 := by omega
  have h3 := Nat.mul_le_mul h1 h2
  rw [show 18446744073709551616 * 18446744073709551616 = 340282366920938463463374607431768211456 from by decide] at h3
  exact h3

theorem div_ne {a b : Nat} (h0 : 0 < b) (h : b ≤ a) : ((a : Int) / (b : Int) != 0) = true := by
  have h1 : 1 ≤ (a : Int) / (b : Int) := by
    rw [Int.le_ediv_iff_mul_le (by omega)]
    omega
  generalize (a : Int) / (b : Int) = z at *
  simp
  omega

theorem high_word {lo S : Nat} (h : lo * S < 18446744073709551616) : IntKind.u64.wrap ((lo : Int) * (S : Int)) = ((lo * S : Nat) : Int) := by
  rw [IntKind.wrap_u64, ← Int.natCast_mul]
  generalize lo * S = X at *
  omega

set_option maxHeartbeats 2000000 in
theorem shl128_high_fit {lo s S K : Nat} (hlo : lo < 18446744073709551616) (hs : 65 ≤ s) (hs2 : s ≤ 127)
    (p2 : (2 : Int) ^ (s - 64) = (S : Int)) (p3 : (2 : Int) ^ (128 - s) = (K : Int)) (hb : lo < K) (h4 : lo * S < 18446744073709551616) (w : World) :
    Calls Try.prog 18 #[.int .u64 0, .int .u64 (lo : Int), .int .u64 (s : Int)] w fun e w' => RetShl (lo * (S * 18446744073709551616)) e ∧ w' = w := by
  have e9 := fits (N := lo * (S * 18446744073709551616)) h4 (l := 0) (by omega) (by rw [Nat.mul_assoc, Nat.add_zero])
  rw [← high_word h4, ← p2, show ((0 : Nat) : Int) = 0 from rfl] at e9
  have e0 : (lo : Int) / (2 : Int) ^ (128 - s) = 0 := by
    rw [p3]
    exact Int.ediv_eq_zero_of_lt (by omega) (by omega)
  generalize lo * (S * 18446744073709551616) = N at *
  clear p2 p3 h4 hb
  go_enter Try.func18, Try.ntmps18
  go_wp2
  go_ret3
  exact ⟨e9, rfl⟩

set_option maxHeartbeats 2000000 in
theorem shl128_high_lost {lo s N K : Nat} (hs : 65 ≤ s) (hs2 : s ≤ 127)
    (p3 : (2 : Int) ^ (128 - s) = (K : Int)) (hK : 1 ≤ K) (hb : K ≤ lo) (q1 : 340282366920938463463374607431768211456 ≤ N) (w : World) :
    Calls Try.prog 18 #[.int .u64 0, .int .u64 (lo : Int), .int .u64 (s : Int)] w fun e w' => RetShl N e ∧ w' = w := by
  have e0 : ((lo : Int) / (2 : Int) ^ (128 - s) != 0) = true := by
    rw [p3]
    exact div_ne hK hb
  have e9 : ∀ h l, RetShl N (.returned (.tuple #[.int .u64 h, .int .u64 l, .bool true])) := fun h l => .inl ⟨q1, h, l, rfl⟩
  clear p3 hb q1
  go_enter Try.func18, Try.ntmps18
  go_wp2
  go_ret3
  exact ⟨e9 _ _, rfl⟩

set_option maxHeartbeats 2000000 in
theorem shl128_high_hi {hi lo s N : Nat} (hs : 65 ≤ s) (hs2 : s ≤ 127)
    (h0 : 0 < hi) (q1 : 340282366920938463463374607431768211456 ≤ N) (w : World) :
    Calls Try.prog 18 #[.int .u64 (hi : Int), .int .u64 (lo : Int), .int .u64 (s : Int)] w fun e w' => RetShl N e ∧ w' = w := by
  have e0 : ((hi : Int) != 0) = true := by
    simp
    omega
  have e9 : ∀ h l, RetShl N (.returned (.tuple #[.int .u64 h, .int .u64 l, .bool true])) := fun h l => .inl ⟨q1, h, l, rfl⟩
  clear q1
  go_enter Try.func18, Try.ntmps18
  go_wp2
  all_goals (go_ret3; exact ⟨e9 _ _, rfl⟩)

theorem shl128_high {hi lo s : Nat} (hhi : hi < 18446744073709551616) (hlo : lo < 18446744073709551616) (hs : 65 ≤ s) (hs2 : s ≤ 127) (w : World) :
    Calls Try.prog 18 #[.int .u64 (hi : Int), .int .u64 (lo : Int), .int .u64 (s : Int)] w fun e w' => RetShl ((hi * 18446744073709551616 + lo) * 2 ^ s) e ∧ w' = w := by
  obtain ⟨S, K, eS, eK, p2, p3, hS, hK⟩ := high_parts hs hs2
  obtain ⟨h1, _, h2, h3⟩ := shl_high (lo := lo) eS eK hs hs2
  rw [h1]
  clear h1 eS eK
  rcases Nat.eq_zero_or_pos hi with h0 | h0
  · subst h0
    rw [Nat.zero_mul, Nat.zero_add]
    rcases Nat.lt_or_ge lo K with hb | hb
    · exact shl128_high_fit hlo hs hs2 p2 p3 hb (h2 hb) w
    · exact shl128_high_lost hs hs2 p3 hK hb (h3 hb) w
  · refine shl128_high_hi hs hs2 h0 (big_mul ?_ hS) w
    exact Nat.le_trans (by omega : 18446744073709551616 ≤ 1 * 18446744073709551616) (Nat.le_trans (Nat.mul_le_mul_right _ h0) (Nat.le_add_right _ _))

theorem shl128_64 {hi lo : Nat} (hhi : hi < 18446744073709551616) (hlo : lo < 18446744073709551616) (w : World) :
    Calls Try.prog 18 #[.int .u64 (hi : Int), .int .u64 (lo : Int), .int .u64 64] w fun e w' => RetShl ((hi * 18446744073709551616 + lo) * 2 ^ 64) e ∧ w' = w := by
  rw [show 2 ^ 64 = 18446744073709551616 from rfl]
  by_cases h0 : hi = 0
  · subst h0
    have e9 := fits (N := (0 * 18446744073709551616 + lo) * 18446744073709551616) hlo (l := 0) (by omega) (by omega)
    generalize (0 * 18446744073709551616 + lo) * 18446744073709551616 = N at *
    go_enter Try.func18, Try.ntmps18
    go_wp2
    go_ret3
    exact ⟨e9, rfl⟩
  · have e0 : ((hi : Int) != 0) = true := by
      simp
      omega
    have q1 : 340282366920938463463374607431768211456 ≤ (hi * 18446744073709551616 + lo) * 18446744073709551616 := by omega
    generalize (hi * 18446744073709551616 + lo) * 18446744073709551616 = N at *
    go_enter Try.func18, Try.ntmps18
    go_wp2
    go_ret3
    exact ⟨.inl ⟨q1, _, _, rfl⟩, rfl⟩

theorem shl128_0 {hi lo : Nat} (hhi : hi < 18446744073709551616) (hlo : lo < 18446744073709551616) (w : World) :
    Calls Try.prog 18 #[.int .u64 (hi : Int), .int .u64 (lo : Int), .int .u64 0] w fun e w' => RetShl ((hi * 18446744073709551616 + lo) * 2 ^ 0) e ∧ w' = w := by
  have e9 := fits (N := (hi * 18446744073709551616 + lo) * 2 ^ 0) hhi hlo (by omega)
  generalize (hi * 18446744073709551616 + lo) * 2 ^ 0 = N at *
  go_enter Try.func18, Try.ntmps18
  go_wp2
  go_ret3
  exact ⟨e9, rfl⟩

theorem shl128_any {hi lo s : Nat} (hhi : hi < 18446744073709551616) (hlo : lo < 18446744073709551616) (hs : s ≤ 127) (w : World) :
    Calls Try.prog 18 #[.int .u64 (hi : Int), .int .u64 (lo : Int), .int .u64 (s : Int)] w fun e w' => RetShl ((hi * 18446744073709551616 + lo) * 2 ^ s) e ∧ w' = w := by
  rcases Nat.eq_zero_or_pos s with h | h
  · subst h
    exact shl128_0 hhi hlo w
  · rcases Nat.lt_or_ge s 64 with h1 | h1
    · exact shl128_low hhi hlo h (by omega) w
    · rcases Nat.lt_or_ge s 65 with h2 | h2
      · obtain rfl : s = 64 := by omega
        exact shl128_64 hhi hlo w
      · exact shl128_high hhi hlo h2 hs w
end Go.Proofs.Qxb6619276a
