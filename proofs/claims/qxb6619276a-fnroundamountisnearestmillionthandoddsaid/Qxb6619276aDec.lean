import Derived.Test.Qxb6619276aScaled
namespace Go.Proofs.Qxb6619276a
open Go.RowKit

theorem hide {p : Prop} (h : p) : Hid p := h

/-! ### isFinite -/

theorem key_max : key 9218868437227405311 = (mag 9218868437227405311 : Int) ∧ key 18442240474082181119 = -(mag 9218868437227405311 : Int) := by
  have h1 : rung 18442240474082181119 = 9218868437227405311 := by decide
  have h2 : neg 18442240474082181119 = true := by decide
  have h3 : rung 9218868437227405311 = 9218868437227405311 := by decide
  have h4 : neg 9218868437227405311 = false := by decide
  unfold key
  rw [h1, h2, h3, h4]
  exact ⟨rfl, rfl⟩

theorem key_bound {x : Nat} (h : isNum x) : (rung x < 9218868437227405312 ∧ -(mag 9218868437227405311 : Int) ≤ key x ∧ key x ≤ (mag 9218868437227405311 : Int)) ∨
    (rung x = 9218868437227405312 ∧ neg x = false ∧ (mag 9218868437227405311 : Int) < key x) ∨ (rung x = 9218868437227405312 ∧ neg x = true ∧ key x < -(mag 9218868437227405311 : Int)) := by
  unfold isNum at h
  rcases Nat.lt_or_eq_of_le h with h1 | h1
  · left
    have h2 : mag (rung x) ≤ mag 9218868437227405311 := (mag_le_iff _ _).2 (by omega)
    unfold key
    generalize mag (rung x) = A at *
    generalize mag 9218868437227405311 = B at *
    refine ⟨h1, ?_⟩
    split <;> omega
  · right
    have h2 : mag 9218868437227405311 < mag (rung x) := mag_mono (by omega)
    unfold key
    generalize mag (rung x) = A at *
    generalize mag 9218868437227405311 = B at *
    cases neg x
    · exact .inl ⟨h1, rfl, by simp; omega⟩
    · exact .inr ⟨h1, rfl, by simp; omega⟩

theorem cmp_le {a b : Int} (h : a ≤ b) : (some (compare a b) == some Ordering.lt || some (compare a b) == some Ordering.eq) = true := by
  rcases Int.lt_or_eq_of_le h with h | h
  · rw [Int.compare_eq_lt.2 h]; rfl
  · rw [Int.compare_eq_eq.2 h]; rfl
theorem cmp_nle {a b : Int} (h : b < a) : (some (compare a b) == some Ordering.lt || some (compare a b) == some Ordering.eq) = false := by
  rw [Int.compare_eq_gt.2 h]; rfl
theorem cmp_ge {a b : Int} (h : b ≤ a) : (some (compare a b) == some Ordering.gt || some (compare a b) == some Ordering.eq) = true := by
  rcases Int.lt_or_eq_of_le h with h | h
  · rw [Int.compare_eq_gt.2 h]; rfl
  · rw [Int.compare_eq_eq.2 h.symm]; rfl
theorem cmp_nge {a b : Int} (h : a < b) : (some (compare a b) == some Ordering.gt || some (compare a b) == some Ordering.eq) = false := by
  rw [Int.compare_eq_lt.2 h]; rfl

theorem isFinite_any (x : Nat) (w : World) : Calls Try.prog 10 #[.float .f64 x] w fun e w' => e = .returned (.bool (decide (rung x < 9218868437227405312))) ∧ w' = w := by
  have hs : (FloatKind.f64.format.order x x == some .eq) = !nan x := ord_self x
  by_cases h : isNum x
  · rw [(isNum_iff x).1 h] at hs
    have o1 : FloatKind.f64.format.order x 9218868437227405311 = some (compare (key x) (key 9218868437227405311)) := order_num h (by unfold isNum; decide)
    have o2 : FloatKind.f64.format.order x 18442240474082181119 = some (compare (key x) (key 18442240474082181119)) := order_num h (by unfold isNum; decide)
    rw [key_max.1] at o1
    rw [key_max.2] at o2
    rcases key_bound h with ⟨b0, b1, b2⟩ | ⟨b0, b1, b2⟩ | ⟨b0, b1, b2⟩
    · have f1 := cmp_le b2
      have f2 := cmp_ge b1
      rw [← o1] at f1
      rw [← o2] at f2
      rw [decide_eq_true b0]
      clear o1 o2 b1 b2
      go_enter Try.func10, Try.ntmps10
      go_wp2
      go_ret
      exact ⟨rfl, rfl⟩
    · have f1 := cmp_nle b2
      rw [← o1] at f1
      rw [decide_eq_false (by omega)]
      clear o1 o2 b1 b2
      go_enter Try.func10, Try.ntmps10
      go_wp2
      go_ret
      exact ⟨rfl, rfl⟩
    · have f1 : (FloatKind.f64.format.order x 9218868437227405311 == some .lt || FloatKind.f64.format.order x 9218868437227405311 == some .eq) = true := by
        rw [o1]
        exact cmp_le (by generalize mag 9218868437227405311 = A at *; omega)
      have f2 := cmp_nge b2
      rw [← o2] at f2
      rw [decide_eq_false (by omega)]
      clear o1 o2 b1 b2
      go_enter Try.func10, Try.ntmps10
      go_wp2
      go_ret
      exact ⟨rfl, rfl⟩
  · have hn : nan x = true := by
      cases h2 : nan x
      · exact absurd ((isNum_iff x).2 h2) h
      · rfl
    rw [hn] at hs
    have h2 : ¬ rung x < 9218868437227405312 := by unfold isNum at h; omega
    rw [decide_eq_false h2]
    go_enter Try.func10, Try.ntmps10
    go_wp2
    go_ret
    exact ⟨rfl, rfl⟩
end Go.Proofs.Qxb6619276a
