import Derived.Test.Qxb6619276aShl
namespace Go.Proofs.Qxb6619276a

/-- Whether the two words are nought, as the law asks it. -/
def Nought (ph pl : Nat) : Prop := ((ph : Int) == 0) = true ∧ ((pl : Int) == 0) = true
def Some1 (ph pl : Nat) : Prop := ((ph : Int) == 0) = false ∨ (((ph : Int) == 0) = true ∧ ((pl : Int) == 0) = false)

theorem nought_or (ph pl : Nat) : (Nought ph pl ∧ ph * 18446744073709551616 + pl = 0) ∨ (Some1 ph pl ∧ 0 < ph * 18446744073709551616 + pl) := by
  unfold Nought Some1
  by_cases h1 : ph = 0
  · by_cases h2 : pl = 0
    · exact .inl ⟨⟨by simp [h1], by simp [h2]⟩, by omega⟩
    · exact .inr ⟨.inr ⟨by simp [h1], by simp; omega⟩, by omega⟩
  · exact .inr ⟨.inl (by simp; omega), by omega⟩

theorem pos_zero {ph pl w' : Nat} {e : Int} (he : 0 ≤ e) (hn : Nought ph pl) (w : World) :
    Calls Try.prog 13 #[.int .u64 (ph : Int), .int .u64 (pl : Int), .int .i64 e, .int .u64 (w' : Int)] w fun r w2 => r = .returned (.int .i64 (sgn 0 w')) ∧ w2 = w := by
  obtain ⟨h1, h2⟩ := hn
  rcases Nat.eq_zero_or_pos w' with h | h
  · rw [sgn_eq h.symm]
    have h3 : ((w' : Int) == 0) = true := by simp; omega
    clear h
    go_enter Try.func13, Try.ntmps13
    go_wp2
    go_ret
    exact ⟨rfl, rfl⟩
  · rw [sgn_lt h]
    have h3 : ((w' : Int) == 0) = false := by simp; omega
    go_enter Try.func13, Try.ntmps13
    go_wp2
    go_ret
    exact ⟨rfl, rfl⟩

theorem pos_far {ph pl w' N : Nat} {e : Int} (he : 128 ≤ e) (hn : Some1 ph pl) (hN : w' < N) (w : World) :
    Calls Try.prog 13 #[.int .u64 (ph : Int), .int .u64 (pl : Int), .int .i64 e, .int .u64 (w' : Int)] w fun r w2 => r = .returned (.int .i64 (sgn N w')) ∧ w2 = w := by
  rw [sgn_gt hN]
  clear hN
  rcases hn with h1 | ⟨h1, h2⟩
  all_goals
    go_enter Try.func13, Try.ntmps13
    go_wp2
    go_ret
    exact ⟨rfl, rfl⟩

set_option maxRecDepth 100000 in
theorem pos_lost {ph pl w' N e : Nat} (he : e ≤ 127) (hn : Some1 ph pl) (hN : w' < N)
    (hS : ∀ w, Calls Try.prog 18 #[.int .u64 (ph : Int), .int .u64 (pl : Int), .int .u64 (e : Int)] w fun r w' => (∃ h l : Int, r = .returned (.tuple #[.int .u64 h, .int .u64 l, .bool true])) ∧ w' = w) (w : World) :
    Calls Try.prog 13 #[.int .u64 (ph : Int), .int .u64 (pl : Int), .int .i64 (e : Int), .int .u64 (w' : Int)] w fun r w2 => r = .returned (.int .i64 (sgn N w')) ∧ w2 = w := by
  rw [sgn_gt hN]
  clear hN
  rcases hn with h1 | ⟨h1, h2⟩
  all_goals
    go_enter Try.func13, Try.ntmps13
    go_wp2_with (go_at_call 18; refine (hS _).mono ?_; rintro r w' ⟨⟨h, l, rfl⟩, rfl⟩)
    go_ret
    exact ⟨rfl, rfl⟩

set_option maxRecDepth 100000 in
theorem pos_fit {ph pl w' N e h l : Nat} (he : e ≤ 127) (hn : Some1 ph pl) (hl : l < 18446744073709551616) (hw : w' < 18446744073709551616) (hN : h * 18446744073709551616 + l = N)
    (hS : ∀ w, Calls Try.prog 18 #[.int .u64 (ph : Int), .int .u64 (pl : Int), .int .u64 (e : Int)] w fun r w' => r = .returned (.tuple #[.int .u64 (h : Int), .int .u64 (l : Int), .bool false]) ∧ w' = w) (w : World) :
    Calls Try.prog 13 #[.int .u64 (ph : Int), .int .u64 (pl : Int), .int .i64 (e : Int), .int .u64 (w' : Int)] w fun r w2 => r = .returned (.int .i64 (sgn N w')) ∧ w2 = w := by
  have hC : ∀ w, Calls Try.prog 19 #[.int .u64 (h : Int), .int .u64 (l : Int), .int .u64 0, .int .u64 (w' : Int)] w fun r w2 => r = .returned (.int .i64 (sgn N w')) ∧ w2 = w := by
    intro w
    have := cmp128_any (ah := h) (al := l) (bh := 0) (bl := w') hl hw w
    rw [hN, Nat.zero_mul, Nat.zero_add] at this
    exact this
  clear hN
  generalize sgn N w' = z at *
  rcases hn with h1 | ⟨h1, h2⟩
  all_goals
    go_enter Try.func13, Try.ntmps13
    go_wp2_with (first | (go_at_call 18; refine (hS _).mono ?_; rintro r w' ⟨rfl, rfl⟩) | (go_at_call 19; refine (hC _).mono ?_; rintro r w' ⟨rfl, rfl⟩))
    go_ret
    exact ⟨rfl, rfl⟩

theorem shl_lost_c {hi lo s : Nat} (hhi : hi < 18446744073709551616) (hlo : lo < 18446744073709551616) (hs : s ≤ 127) (hN : 340282366920938463463374607431768211456 ≤ (hi * 18446744073709551616 + lo) * 2 ^ s) (w : World) :
    Calls Try.prog 18 #[.int .u64 (hi : Int), .int .u64 (lo : Int), .int .u64 (s : Int)] w fun r w' => (∃ h l : Int, r = .returned (.tuple #[.int .u64 h, .int .u64 l, .bool true])) ∧ w' = w := by
  refine (shl128_any hhi hlo hs w).mono ?_
  rintro e w' ⟨h, rfl⟩
  rcases h with ⟨_, h, l, rfl⟩ | ⟨h, _⟩
  · exact ⟨⟨h, l, rfl⟩, rfl⟩
  · exact absurd hN (Nat.not_le.2 h)

theorem shl_fit_c {hi lo s : Nat} (hhi : hi < 18446744073709551616) (hlo : lo < 18446744073709551616) (hs : s ≤ 127) (hN : (hi * 18446744073709551616 + lo) * 2 ^ s < 340282366920938463463374607431768211456) :
    ∃ h l : Nat, h < 18446744073709551616 ∧ l < 18446744073709551616 ∧ h * 18446744073709551616 + l = (hi * 18446744073709551616 + lo) * 2 ^ s ∧
    ∀ w, Calls Try.prog 18 #[.int .u64 (hi : Int), .int .u64 (lo : Int), .int .u64 (s : Int)] w fun r w' => r = .returned (.tuple #[.int .u64 (h : Int), .int .u64 (l : Int), .bool false]) ∧ w' = w := by
  have hall := fun w => shl128_any hhi hlo hs w
  generalize (hi * 18446744073709551616 + lo) * 2 ^ s = N at *
  refine ⟨N / 18446744073709551616, N % 18446744073709551616, by omega, by omega, by omega, fun w => ?_⟩
  refine (hall w).mono ?_
  rintro e w' ⟨h, rfl⟩
  rcases h with ⟨h, _⟩ | ⟨_, h⟩
  · exact absurd h (Nat.not_le.2 hN)
  · exact ⟨h, rfl⟩

theorem big_far {P d : Nat} (hP : 0 < P) (hd : 128 ≤ d) : 340282366920938463463374607431768211456 ≤ P * 2 ^ d := by
  have h1 : 2 ^ 128 ≤ 2 ^ d := Nat.pow_le_pow_right (by omega) hd
  have h2 : 1 * 2 ^ d ≤ P * 2 ^ d := Nat.mul_le_mul_right _ hP
  rw [Nat.one_mul] at h2
  exact Nat.le_trans h1 h2

/-- cmpScaled at a place that is not below zero. -/
theorem scaled_pos {ph pl w' e : Nat} (h1 : ph < 18446744073709551616) (h2 : pl < 18446744073709551616) (h3 : w' < 18446744073709551616) (w : World) :
    Calls Try.prog 13 #[.int .u64 (ph : Int), .int .u64 (pl : Int), .int .i64 (e : Int), .int .u64 (w' : Int)] w fun r w2 => r = .returned (.int .i64 (sgn ((ph * 18446744073709551616 + pl) * 2 ^ e) w')) ∧ w2 = w := by
  rcases nought_or ph pl with ⟨hn, h0⟩ | ⟨hn, h0⟩
  · rw [h0, Nat.zero_mul]
    exact pos_zero (by omega) hn w
  · rcases Nat.lt_or_ge e 128 with he | he
    · rcases Nat.lt_or_ge ((ph * 18446744073709551616 + pl) * 2 ^ e) 340282366920938463463374607431768211456 with hf | hf
      · obtain ⟨h, l, a1, a2, a3, a4⟩ := shl_fit_c h1 h2 (by omega) hf
        exact pos_fit (by omega) hn a2 h3 a3 a4 w
      · exact pos_lost (by omega) hn (Nat.lt_of_lt_of_le h3 (Nat.le_trans (by omega) hf)) (fun w => shl_lost_c h1 h2 (by omega) hf w) w
    · exact pos_far (by omega) hn (Nat.lt_of_lt_of_le h3 (Nat.le_trans (by omega) (big_far h0 he))) w

theorem neg_zero {ph pl : Nat} {e : Int} {d : Nat} (hd : 1 ≤ d) (hd2 : d ≤ 3000) (he : e = -(d : Int)) (w : World) :
    Calls Try.prog 13 #[.int .u64 (ph : Int), .int .u64 (pl : Int), .int .i64 e, .int .u64 0] w fun r w2 => r = .returned (.int .i64 (sgn (ph * 18446744073709551616 + pl) 0)) ∧ w2 = w := by
  have hd3 : e < 0 := by omega
  have hd4 : -3000 ≤ e := by omega
  clear he hd hd2
  rcases nought_or ph pl with ⟨hn, h0⟩ | ⟨hn, h0⟩
  · rw [h0, sgn_eq rfl]
    obtain ⟨h1, h2⟩ := hn
    go_enter Try.func13, Try.ntmps13
    go_wp2
    go_ret
    exact ⟨rfl, rfl⟩
  · rw [sgn_gt h0]
    clear h0
    rcases hn with h1 | ⟨h1, h2⟩
    all_goals
      go_enter Try.func13, Try.ntmps13
      go_wp2
      go_ret
      exact ⟨rfl, rfl⟩

theorem pz_cases (ph pl : Nat) : Nought ph pl ∨ Some1 ph pl := by
  rcases nought_or ph pl with ⟨h, _⟩ | ⟨h, _⟩
  · exact .inl h
  · exact .inr h

set_option maxRecDepth 100000 in
theorem neg_far {ph pl w' N P : Nat} {e : Int} {d : Nat} (hd : 128 ≤ d) (hd2 : d ≤ 3000) (he : e = -(d : Int)) (hw : 0 < w') (hN : P < N) (w : World) :
    Calls Try.prog 13 #[.int .u64 (ph : Int), .int .u64 (pl : Int), .int .i64 e, .int .u64 (w' : Int)] w fun r w2 => r = .returned (.int .i64 (sgn P N)) ∧ w2 = w := by
  rw [sgn_lt hN]
  have hd3 : e ≤ -128 := by omega
  have hd4 : -3000 ≤ e := by omega
  have hw2 : ((w' : Int) == 0) = false := by simp; omega
  clear he hd hd2 hN hw
  rcases pz_cases ph pl with ⟨h1, h2⟩ | h1 | ⟨h1, h2⟩
  all_goals
    go_enter Try.func13, Try.ntmps13
    go_wp2
    go_ret
    exact ⟨rfl, rfl⟩

set_option maxRecDepth 100000 in
theorem neg_lost {ph pl w' N P : Nat} {e : Int} {d : Nat} (hd : 1 ≤ d) (hd2 : d ≤ 127) (he : -e = (d : Int)) (hw : 0 < w') (hN : P < N)
    (hS : ∀ w, Calls Try.prog 18 #[.int .u64 0, .int .u64 (w' : Int), .int .u64 (d : Int)] w fun r w' => (∃ h l : Int, r = .returned (.tuple #[.int .u64 h, .int .u64 l, .bool true])) ∧ w' = w) (w : World) :
    Calls Try.prog 13 #[.int .u64 (ph : Int), .int .u64 (pl : Int), .int .i64 e, .int .u64 (w' : Int)] w fun r w2 => r = .returned (.int .i64 (sgn P N)) ∧ w2 = w := by
  rw [sgn_lt hN]
  have hw2 : ((w' : Int) == 0) = false := by simp; omega
  clear hN hw
  rcases pz_cases ph pl with ⟨h1, h2⟩ | h1 | ⟨h1, h2⟩
  all_goals
    go_enter Try.func13, Try.ntmps13
    go_wp2_with (go_at_call 18; refine (hS _).mono ?_; rintro r w' ⟨⟨h, l, rfl⟩, rfl⟩)
    go_ret
    exact ⟨rfl, rfl⟩

set_option maxRecDepth 100000 in
theorem neg_fit {ph pl w' N h l : Nat} {e : Int} {d : Nat} (hd : 1 ≤ d) (hd2 : d ≤ 127) (he : -e = (d : Int)) (hw : 0 < w') (hpl : pl < 18446744073709551616) (hl : l < 18446744073709551616) (hN : h * 18446744073709551616 + l = N)
    (hS : ∀ w, Calls Try.prog 18 #[.int .u64 0, .int .u64 (w' : Int), .int .u64 (d : Int)] w fun r w' => r = .returned (.tuple #[.int .u64 (h : Int), .int .u64 (l : Int), .bool false]) ∧ w' = w) (w : World) :
    Calls Try.prog 13 #[.int .u64 (ph : Int), .int .u64 (pl : Int), .int .i64 e, .int .u64 (w' : Int)] w fun r w2 => r = .returned (.int .i64 (sgn (ph * 18446744073709551616 + pl) N)) ∧ w2 = w := by
  have hC : ∀ w, Calls Try.prog 19 #[.int .u64 (ph : Int), .int .u64 (pl : Int), .int .u64 (h : Int), .int .u64 (l : Int)] w fun r w2 => r = .returned (.int .i64 (sgn (ph * 18446744073709551616 + pl) N)) ∧ w2 = w := by
    intro w
    have := cmp128_any (ah := ph) (al := pl) (bh := h) (bl := l) hpl hl w
    rw [hN] at this
    exact this
  clear hN
  generalize sgn (ph * 18446744073709551616 + pl) N = z at *
  have hw2 : ((w' : Int) == 0) = false := by simp; omega
  clear hw
  rcases pz_cases ph pl with ⟨h1, h2⟩ | h1 | ⟨h1, h2⟩
  all_goals
    go_enter Try.func13, Try.ntmps13
    go_wp2_with (first | (go_at_call 18; refine (hS _).mono ?_; rintro r w' ⟨rfl, rfl⟩) | (go_at_call 19; refine (hC _).mono ?_; rintro r w' ⟨rfl, rfl⟩))
    go_ret
    exact ⟨rfl, rfl⟩

/-- cmpScaled at a place below zero. -/
theorem scaled_neg {ph pl w' d : Nat} {e : Int} (h1 : ph < 18446744073709551616) (h2 : pl < 18446744073709551616) (h3 : w' < 18446744073709551616) (hd : 1 ≤ d) (hd2 : d ≤ 3000) (he : e = -(d : Int)) (w : World) :
    Calls Try.prog 13 #[.int .u64 (ph : Int), .int .u64 (pl : Int), .int .i64 e, .int .u64 (w' : Int)] w fun r w2 => r = .returned (.int .i64 (sgn (ph * 18446744073709551616 + pl) (w' * 2 ^ d))) ∧ w2 = w := by
  rcases Nat.eq_zero_or_pos w' with h0 | h0
  · subst h0
    rw [Nat.zero_mul]
    exact neg_zero hd hd2 he w
  · have hP : ph * 18446744073709551616 + pl < 340282366920938463463374607431768211456 := by omega
    rcases Nat.lt_or_ge d 128 with hd3 | hd3
    · have e0 : 0 * 18446744073709551616 + w' = w' := by omega
      rcases Nat.lt_or_ge (w' * 2 ^ d) 340282366920938463463374607431768211456 with hf | hf
      · obtain ⟨h, l, a1, a2, a3, a4⟩ := shl_fit_c (hi := 0) (lo := w') (s := d) (by omega) h3 (by omega) (by rw [e0]; exact hf)
        rw [e0] at a3
        exact neg_fit hd (by omega) (by omega) h0 h2 a2 a3 a4 w
      · exact neg_lost hd (by omega) (by omega) h0 (Nat.lt_of_lt_of_le hP hf) (fun w => shl_lost_c (hi := 0) (lo := w') (s := d) (by omega) h3 (by omega) (by rw [e0]; exact hf) w) w
    · exact neg_far hd3 hd2 he h0 (Nat.lt_of_lt_of_le hP (big_far h0 hd3)) w
end Go.Proofs.Qxb6619276a
