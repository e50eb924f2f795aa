import Derived.Test.Qxb6619276aRound4
import Derived.OwnWalk
namespace Go.Proofs.Qxb6619276a

/-- How two plain numbers stand. -/
def sgn (A B : Nat) : Int := if A < B then -1 else if A = B then 0 else 1
theorem sgn_lt {A B : Nat} (h : A < B) : sgn A B = -1 := by unfold sgn; rw [if_pos h]
theorem sgn_eq {A B : Nat} (h : A = B) : sgn A B = 0 := by unfold sgn; rw [if_neg (by omega), if_pos h]
theorem sgn_gt {A B : Nat} (h : B < A) : sgn A B = 1 := by unfold sgn; rw [if_neg (by omega), if_neg (by omega)]

theorem cmp128_any {ah al bh bl : Nat} (h1 : al < 18446744073709551616) (h2 : bl < 18446744073709551616) (w : World) :
    Calls Try.prog 19 #[.int .u64 (ah : Int), .int .u64 (al : Int), .int .u64 (bh : Int), .int .u64 (bl : Int)] w fun e w' =>
      e = .returned (.int .i64 (sgn (ah * 18446744073709551616 + al) (bh * 18446744073709551616 + bl))) ∧ w' = w := by
  rcases Nat.lt_trichotomy ah bh with h | h | h
  · rw [sgn_lt (by omega)]
    have g1 : ((ah : Int) != (bh : Int)) = true := by simp; omega
    go_enter Try.func19, Try.ntmps19
    go_wp2
    go_ret
    exact ⟨rfl, rfl⟩
  · subst h
    rcases Nat.lt_trichotomy al bl with h | h | h
    · rw [sgn_lt (by omega)]
      have g1 : ((al : Int) != (bl : Int)) = true := by simp; omega
      go_enter Try.func19, Try.ntmps19
      go_wp2
      go_ret
      exact ⟨rfl, rfl⟩
    · subst h
      rw [sgn_eq rfl]
      go_enter Try.func19, Try.ntmps19
      go_wp2
      go_ret
      exact ⟨rfl, rfl⟩
    · rw [sgn_gt (by omega)]
      have g1 : ((al : Int) != (bl : Int)) = true := by simp; omega
      go_enter Try.func19, Try.ntmps19
      go_wp2
      go_ret
      exact ⟨rfl, rfl⟩
  · rw [sgn_gt (by omega)]
    have g1 : ((ah : Int) != (bh : Int)) = true := by simp; omega
    go_enter Try.func19, Try.ntmps19
    go_wp2
    go_ret
    exact ⟨rfl, rfl⟩

/-- 2 * m * 10^6, in two words. -/
theorem twice_any {m : Nat} (hm : m < 9007199254740992) (w : World) : Calls Try.prog 12 #[.int .u64 (m : Int)] w fun e w' => RetMul (m * 2000000) e ∧ w' = w := by
  obtain ⟨a, ha⟩ : ∃ a, a = m / 4294967296 := ⟨_, rfl⟩
  obtain ⟨b, hb⟩ : ∃ b, b = m % 4294967296 := ⟨_, rfl⟩
  have f1 : bits .and .u64 (m : Int) 4294967295 = (b : Int) := by rw [and_low _ (by omega) (by omega)]; omega
  have f3 : (m : Int) / 4294967296 = (a : Int) := by omega
  have a1 : a < 2097152 := by omega
  have b1 : b < 4294967296 := by omega
  have f4 : bits .and .u64 ((a : Int) * 2000000) 4294967295 = ((a : Int) * 2000000) % 4294967296 := and_low _ (by omega) (by omega)
  have g1 : m = a * 4294967296 + b := by omega
  have g2 : m * 2000000 = a * 2000000 * 4294967296 + b * 2000000 := by omega
  rw [g2]
  clear ha hb g1 g2 
  obtain ⟨u, hu⟩ : ∃ u, u = a * 2000000 / 4294967296 := ⟨_, rfl⟩
  obtain ⟨v, hv⟩ : ∃ v, v = a * 2000000 % 4294967296 := ⟨_, rfl⟩
  have f5 : (a : Int) * 2000000 / 4294967296 = (u : Int) := by omega
  have f6 : (a : Int) * 2000000 % 4294967296 = (v : Int) := by omega
  have f7 : a * 2000000 * 4294967296 = u * 18446744073709551616 + v * 4294967296 := by omega
  rw [f7]
  have u1 : u < 1000000000 := by omega
  have v1 : v < 4294967296 := by omega
  rw [f6] at f4
  clear hu hv f7 f6
  obtain ⟨B, hB⟩ : ∃ B, B = b * 2000000 := ⟨_, rfl⟩
  have B1 : B < 8589934592000000 := by omega
  have f8 : (b : Int) * 2000000 = (B : Int) := by omega
  rw [← hB]
  clear hB
  by_cases hc : v * 4294967296 + B < 18446744073709551616
  · have hn : ¬ ((v : Int) * 4294967296 + (B : Int) < (B : Int)) := by omega
    have e9 : RetMul (u * 18446744073709551616 + v * 4294967296 + B) (.returned (.tuple #[.int .u64 (u : Int), .int .u64 ((v : Int) * 4294967296 + (B : Int))])) := ⟨u, v * 4294967296 + B, by omega, by omega, by omega, rfl⟩
    go_enter Try.func12, Try.ntmps12
    go_wp2
    go_ret2
    exact ⟨e9, rfl⟩
  · have f9 : IntKind.u64.wrap ((v : Int) * 4294967296 + (B : Int)) = (v : Int) * 4294967296 + (B : Int) - 18446744073709551616 := by rw [IntKind.wrap_u64]; omega
    have e9 : RetMul (u * 18446744073709551616 + v * 4294967296 + B) (.returned (.tuple #[.int .u64 ((u : Int) + 1), .int .u64 ((v : Int) * 4294967296 + (B : Int) - 18446744073709551616)])) := by
      refine ⟨u + 1, v * 4294967296 + B - 18446744073709551616, by omega, by omega, by omega, ?_⟩
      have z1 : (u : Int) + 1 = ((u + 1 : Nat) : Int) := by omega
      have z2 : (v : Int) * 4294967296 + (B : Int) - 18446744073709551616 = ((v * 4294967296 + B - 18446744073709551616 : Nat) : Int) := by omega
      rw [z1, z2]
    go_enter Try.func12, Try.ntmps12
    go_wp2
    go_ret2
    exact ⟨e9, rfl⟩
end Go.Proofs.Qxb6619276a
