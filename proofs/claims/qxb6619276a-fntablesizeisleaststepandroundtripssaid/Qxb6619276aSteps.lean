import Derived.Test.Qxb6619276aTab
namespace Go.Proofs.Qxb6619276a
open Go.RowKit

theorem sz_half (i : Nat) (h : 4 ≤ i) : sz i = 2 * sz (i - 4) := by
  obtain ⟨q, c, hc, rfl⟩ := split4 i
  obtain ⟨r, rfl⟩ : ∃ r, q = r + 1 := ⟨q - 1, by omega⟩
  rw [show 4 * (r + 1) + c - 4 = 4 * r + c by omega, sz_eq _ _ hc, sz_eq _ _ hc, Nat.pow_succ]
  rw [← Nat.mul_assoc, Nat.mul_comm]

theorem sz_small (i : Nat) : sz i < 8 ↔ i < 4 := by
  constructor
  · intro h
    rcases Nat.lt_or_ge i 4 with h' | h'
    · exact h'
    · have := sz_mono h'
      have e : sz 4 = 8 := rfl
      omega
  · intro h
    match i, h with
    | 0, _ => decide
    | 1, _ => decide
    | 2, _ => decide
    | 3, _ => decide

/-- The sizes just before (0 for the least) and just after. -/
def before (i : Nat) : Int := if i = 0 then 0 else (sz (i - 1) : Int)

theorem prev_hi (q c : Nat) (hc : c < 4) (h : 0 < c) : ((4 + c : Nat) : Int) - 1 = 3 + c ∧ before (4 * q + c) = (3 + c) * 2 ^ q := by
  refine ⟨by omega, ?_⟩
  unfold before
  rw [if_neg (by omega), show 4 * q + c - 1 = 4 * q + (c - 1) by omega, sz_eq _ _ (by omega), show 4 + (c - 1) = 3 + c by omega]
  push_cast
  rfl

theorem prev_lo (q : Nat) (h : 0 < q) : before (4 * q) = 7 * 2 ^ (q - 1) := by
  unfold before
  rw [if_neg (by omega), show 4 * q - 1 = 4 * (q - 1) + 3 by omega, sz_eq _ _ (by omega)]
  push_cast
  rfl

theorem next_lo (q c : Nat) (hc : c < 3) : ((sz (4 * q + c + 1) : Nat) : Int) = (5 + c) * 2 ^ q := by
  rw [show 4 * q + c + 1 = 4 * q + (c + 1) by omega, sz_eq _ _ (by omega), show 4 + (c + 1) = 5 + c by omega]
  push_cast
  rfl

theorem next_hi (q : Nat) : ((sz (4 * q + 3 + 1) : Nat) : Int) = 4 * 2 ^ (q + 1) := by
  rw [show 4 * q + 3 + 1 = 4 * (q + 1) + 0 by omega, sz_eq _ _ (by omega)]
  push_cast
  rfl

theorem wrap_pow {a : Int} {q : Nat} (ha0 : 0 ≤ a) (ha : a ≤ 8) (hq : q ≤ 40) : wrap64 (a * 2 ^ q) = a * 2 ^ q := by
  have h1 : (2 : Nat) ^ q ≤ 2 ^ 40 := Nat.pow_le_pow_right (by omega) hq
  have e2 : ((2 : Int) ^ q) = ((2 ^ q : Nat) : Int) := by push_cast; rfl
  rw [e2]
  generalize 2 ^ q = P at h1
  have hle : a * (P : Int) ≤ 8 * (P : Int) := Int.mul_le_mul_of_nonneg_right ha (by omega)
  have hge : 0 ≤ a * (P : Int) := Int.mul_nonneg ha0 (by omega)
  exact wrap_id (by omega) (by omega)

theorem ret3 {a b a' b' : Int} (h1 : a = a') (h2 : b = b') : Ending.returned (.tuple #[.bool true, .int .i64 a, .int .i64 b]) = .returned (.tuple #[.bool true, .int .i64 a', .int .i64 b']) := by
  rw [h1, h2]

set_option maxHeartbeats 1000000 in
set_option maxRecDepth 100000 in
theorem sizeSteps_any (i : Nat) (w : World) (hi : sz i ≤ 4294967296) :
    Calls Try.prog 15 #[.int .i64 (sz i : Int)] w fun e w' => e = .returned (.tuple #[.bool true, .int .i64 (before i), .int .i64 (sz (i + 1) : Int)]) ∧ w' = w := by
  have hq40 : i / 4 ≤ 32 := by
    rcases Nat.lt_or_ge (i / 4) 33 with h' | h'
    · omega
    · have h1 := Nat.pow_le_pow_right (show 0 < 2 by omega) h'
      have h2 := pow_le_sz i
      omega
  have hs4 := sz_ge i
  obtain ⟨s, hs⟩ : ∃ s, s = sz i := ⟨_, rfl⟩
  rw [← hs] at hi hs4
  rw [← hs]
  have HSZ := hide hs
  have s4 : 4 ≤ s := by omega
  clear hs hs4
  have HQ := hide hq40
  clear hq40
  go_enter Try.func15, Try.ntmps15
  go_wp2
  go_loop [5, 6] (fun v j => ∃ m : Nat, 4 * m ≤ i ∧ v = .int .i64 (sz (i - 4 * m) : Int) ∧ j = .int .u64 (m : Int)) (fun v _ => (intOf v).toNat)
  case atStart => exact ⟨0, by omega, by rw [HSZ.out]; rfl, rfl⟩
  case round =>
    obtain ⟨m, hm, rfl, rfl⟩ := hrel
    have hm40 : m ≤ 32 := by have := HQ.out; omega
    have hb := sz_mono (show i - 4 * m ≤ i by omega)
    rw [← HSZ.out] at hb
    by_cases h4 : 4 ≤ i - 4 * m
    · have e := sz_half _ h4
      have hg := sz_ge (i - 4 * m - 4)
      obtain ⟨x, hx⟩ : ∃ x, x = sz (i - 4 * m - 4) := ⟨_, rfl⟩
      rw [← hx] at e hg
      rw [e] at hb ⊢
      have HX := hide hx
      clear hx e
      have x4 : 4 ≤ x := by omega
      go_wp2
      go_round
      case rel => exact ⟨m + 1, by omega, by rw [HX.out, show i - 4 * (m + 1) = i - 4 * m - 4 by omega], by go_num⟩
      case measure => simp [intOf]; omega
    · have hc : i - 4 * m < 4 := by omega
      obtain ⟨c, hcc⟩ : ∃ c, c = i - 4 * m := ⟨_, rfl⟩
      have hi : i = 4 * m + c := by omega
      have hsc : sz (i - 4 * m) = 4 + c := by
        rw [← hcc]
        have := sz_eq 0 c (by omega)
        simpa using this
      rw [hsc]
      clear hsc hb h4
      rw [← hcc] at hc
      have HI := hide hi
      clear hcc hi hm
      match c, hc with
      | 0, _ =>
        by_cases hm0 : m = 0
        · subst hm0
          go_wp2
          go_ret3
          exact ⟨ret3 (by rw [HI.out]; rfl) (by rw [HI.out]; rfl), rfl⟩
        · have hm1 : 0 < m := by omega
          obtain ⟨r, hr⟩ : ∃ r, r = m - 1 := ⟨_, rfl⟩
          obtain rfl : m = r + 1 := by omega
          clear hr
          go_wp2
          go_ret3
          exact ⟨ret3 (by rw [HI.out, Nat.add_zero, prev_lo _ hm1, wrap_pow (by omega) (by omega) (by omega)]; rfl) (by rw [HI.out, next_lo (r + 1) 0 (by omega), wrap_pow (by omega) (by omega) (by omega)]; rfl), rfl⟩
      | 1, _ =>
        go_wp2
        go_ret3
        exact ⟨ret3 (by rw [HI.out, (prev_hi m 1 (by omega) (by omega)).2, wrap_pow (by omega) (by omega) (by omega)]; rfl) (by rw [HI.out, next_lo _ _ (by omega), wrap_pow (by omega) (by omega) (by omega)]; rfl), rfl⟩
      | 2, _ =>
        go_wp2
        go_ret3
        exact ⟨ret3 (by rw [HI.out, (prev_hi m 2 (by omega) (by omega)).2, wrap_pow (by omega) (by omega) (by omega)]; rfl) (by rw [HI.out, next_lo _ _ (by omega), wrap_pow (by omega) (by omega) (by omega)]; rfl), rfl⟩
      | 3, _ =>
        go_wp2
        go_ret3
        exact ⟨ret3 (by rw [HI.out, (prev_hi m 3 (by omega) (by omega)).2, wrap_pow (by omega) (by omega) (by omega)]; rfl) (by rw [HI.out, next_hi, wrap_pow (by omega) (by omega) (by omega)]), rfl⟩
end Go.Proofs.Qxb6619276a
