import Derived.Test.Qxb6619276aRows
import Derived.WalkKit
import Derived.ProofKit
import Derived.OpenShut
import Derived.ShutString
import Derived.Laws.Cover2
import Derived.Test.Qxb6619276aNear2
namespace Go.Proofs.Qxb6619276a
open Go.ChangeShapes Go.WideShapes Go.ChangeAt Go.RowKit

attribute [local go_sem] run_neg_float

/-- The law's own test holds at what roundAmount gives. -/
theorem near_am {x : Nat} (hx : x < 18446744073709551616) (w : World) : Calls Try.prog 8 #[.float .f64 x, .int .i64 (am x), .bool (okay x)] w fun e w' => e = .returned (.bool true) ∧ w' = w := by
  unfold am okay
  by_cases hf : rung x < 9218868437227405312
  · rw [if_pos hf, if_pos hf]
    by_cases hq : quo (mag (rung x)) < 9223372036854775808
    · rw [if_pos hq, decide_eq_true hq]
      have hnum : isNum x := by unfold isNum; omega
      have hF := isFinite_any x
      rw [decide_eq_true hf] at hF
      have hD := decompose_two hx hf
      have hu := quo_upper (mag (rung x))
      have hl := quo_lower (mag (rung x))
      have hg1 := pos_order hnum
      have hg2 := neg_order hnum
      have hr : 0 < quo (mag (rung x)) → 0 < rung x := by
        intro h0
        rcases Nat.eq_zero_or_pos (rung x) with h | h
        · rw [h, mag_zero, quo_zero] at h0
          omega
        · exact h
      unfold below
      generalize quo (mag (rung x)) = q at *
      generalize mag (rung x) = V at *
      rcases Nat.eq_zero_or_pos q with h0 | h0
      · have e0 : (if (neg x && decide (0 < rung x)) = true then -(q : Int) else (q : Int)) = 0 := by rw [h0]; split <;> rfl
        rw [e0]
        exact near_zero hF hD hq hu hl h0 _ _ hg1 hg2 w
      · have hr := hr h0
        rw [decide_eq_true hr, Bool.and_true] at hg1 hg2 ⊢
        cases hn : neg x
        · rw [hn] at hg1 hg2
          simp only [Bool.false_eq_true, if_false]
          exact near_pos hF hD hq hu hl h0 hg1 hg2 w
        · rw [hn] at hg1 hg2
          simp only [if_true]
          exact near_neg hF hD hq hu hl h0 hg1 hg2 w
    · rw [if_neg hq, decide_eq_false hq]
      exact near_big hx hf hq w
  · rw [if_neg hf, if_neg hf]
    exact near_not hf w

theorem negF_lt {x : Nat} (hx : x < 18446744073709551616) : negF x < 18446744073709551616 := by
  unfold negF
  exact Nat.xor_lt_two_pow (n := 64) hx (by omega)

/-- Odd. -/
theorem odd (x : Nat) : am (negF x) = -(am x) ∧ okay (negF x) = okay x ∧ -9223372036854775807 ≤ am x ∧ am x ≤ 9223372036854775807 := by
  unfold am okay below
  rw [rung_negF, neg_negF]
  have h0 : rung x = 0 → quo (mag (rung x)) = 0 := by
    intro h
    rw [h, mag_zero, quo_zero]
  generalize quo (mag (rung x)) = q at *
  by_cases hf : rung x < 9218868437227405312
  · simp only [if_pos hf]
    by_cases hq : q < 9223372036854775808
    · simp only [if_pos hq]
      rcases Nat.eq_zero_or_pos (rung x) with h | h
      · obtain rfl := h0 h
        refine ⟨?_, trivial, ?_, ?_⟩ <;> cases neg x <;> simp
      · rw [decide_eq_true h]
        refine ⟨?_, trivial, ?_, ?_⟩ <;> cases neg x <;> simp <;> omega
    · simp only [if_neg hq]
      exact ⟨rfl, trivial, by omega, by omega⟩
  · simp only [if_neg hf]
    exact ⟨rfl, trivial, by omega, by omega⟩

set_option maxHeartbeats 1000000 in
set_option maxRecDepth 100000 in
theorem law_any {x : Nat} (hx : x < 18446744073709551616) (w : World) : Calls Try.prog 3 #[.float .f64 x] w fun e w' => e = .returned (.bool true) ∧ w' = w := by
  have hA := fun w => ZZround_any hx w
  have hB := fun w => ZZround_any (negF_lt hx) w
  have hN := fun w => near_am hx w
  obtain ⟨o1, o2, o3, o4⟩ := odd x
  rw [o1, o2] at hB
  clear o1 o2
  generalize am x = a at *
  generalize okay x = b at *
  generalize hy : negF x = y at *
  go_enter Try.func3, Try.ntmps3
  go_wp2_with (first
    | (go_at_call_of 7 (Value.float FloatKind.f64 x); refine (hA _).mono ?_; rintro e w' ⟨rfl, rfl⟩)
    | (go_at_call_of 7 (Value.float FloatKind.f64 y); refine (hB _).mono ?_; rintro e w' ⟨rfl, rfl⟩)
    | (go_at_call 8; refine (hN _).mono ?_; rintro e w' ⟨rfl, rfl⟩))
  go_ret
  exact ⟨rfl, rfl⟩

theorem own3 : ownKnob Try.prog.godebug = none := by kernel_rfl

set_option maxRecDepth 100000 in
theorem lifted3 (os : Os) (started : os.Started) (H : Type) (enc : TypeId × Value → H) :
    ReturnsInHanded {} Try.checked os 3 .any (Rows.fnRoundAmountIsNearestMillionthAndOddSpec.pre6 enc Try.prog Try.f3 Rows.fnRoundAmountIsNearestMillionthAndOddRow.domain false) (Rows.fnRoundAmountIsNearestMillionthAndOddSpec.post enc Try.prog Try.f3 false true false false) := by
  refine returnsInHanded_of_change (C := Try.checked) own3 started (by kernel_rfl) Try.func3
    (ChangeSpec.witness6 (enc := enc) (C := Try.checked) false ⟨#[], #[.float .f64 0], []⟩ 8 (by kernel_rfl) (by kernel_rfl) (by kernel_rfl) (by kernel_rfl)) ?_
  intro W base args ds gs before hval0 hW hcnd _
  have hval : ∀ (j : Nat) t v, Try.f3.params[j]? = some t → args[j]? = some v → Value.okWide Try.prog W .any base t v := hval0
  have hW' := hW
  obtain ⟨p, q, hA0, hV, rfl, hfz, hnd⟩ := hW
  have hA : DataW.TrodAll enc Try.prog W 0 (fun _ => true) true Try.f3.params.toList args.toList ds p := hA0
  rw [Try.params3] at hA hval
  obtain ⟨v0, vs0, d0, ds0, p0, q0, hargs, rfl, rfl, h0, r0⟩ := trodAll_cons hA
  obtain ⟨rfl, rfl, rfl⟩ := trodAll_nil r0
  obtain rfl : args = #[v0] := by cases args; simp_all
  obtain ⟨rfl, rfl⟩ := trodVars_none hV
  obtain ⟨a0, rfl, rfl, rfl, w0⟩ := open_float Try.underlying22 (hval 0 22 v0 rfl rfl) h0
  clear hA0 hval0
  simp only [List.append_nil] at hW'
  have hx : a0 < 18446744073709551616 := by
    have h := w0
    simp only [Lit.wf, decide_eq_true_eq] at h
    exact h
  refine (law_any hx W).mono fun e W' ⟨he, hw⟩ => ?_
  subst he
  obtain rfl := hw.symm
  have hg := Grown.refl W
  exact ⟨_, rfl, post_of_same (pa := []) (pv := []) hW' (fun _ _ _ => (trodAll_cons_mk (shut_bool Try.underlying4 _) trodAll_mk0)) (fun sp _ => (trodAll_cons_mk (shut_float Try.underlying22 w0) trodAll_mk0)) (fun _ _ => rfl) rfl
    (hg.frame _) hg.2.1 (ok_one (by kernel_rfl) rfl (okWide_bool_mk Try.underlying4 _))⟩

theorem over3 : Rows.fnRoundAmountIsNearestMillionthAndOddRow.holds Try.pinned (OpenSpec.ofChange Rows.fnRoundAmountIsNearestMillionthAndOddSpec) :=
  OpenClaim.holds_of_wide 3 Try.f3 rfl rfl rfl rfl rfl rfl rfl ⟨rfl, rfl, rfl, rfl, rfl⟩ rfl rfl rfl rfl rfl (by kernel_rfl) Try.func3 (by kernel_rfl)
    (of_decide_eq_true (by kernel_rfl)) (by unfold Func.isWrapper; first | (rw [if_pos (by decide +kernel)]; kernel_rfl) | (rw [if_neg (by decide +kernel)]; exact ⟨rfl, rfl⟩))
    (fun os started H enc _ => lifted3 os started H enc)

theorem roundAmountIsNearest_proved : Rows.FnRoundAmountIsNearestMillionthAndOddSaid :=
  over3
end Go.Proofs.Qxb6619276a
