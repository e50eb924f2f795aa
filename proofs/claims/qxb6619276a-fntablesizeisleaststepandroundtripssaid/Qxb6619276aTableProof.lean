/-
  THE PROOF OF 'Rows.FnTableSizeIsLeastStepAndRoundTripsSaid': the frame was written by the kit's proof-skeleton.mjs, the walk is ours.
-/
import Derived.Test.Qxb6619276aRows
import Derived.WalkKit
import Derived.ProofKit
import Derived.OpenShut
import Derived.ShutString
import Derived.Test.Qxb6619276aSteps
namespace Go.Proofs.Qxb6619276a.fnTableSizeIsLeastStepAndRoundTrips
open Go.ChangeShapes Go.WideShapes Go.ChangeAt Go.RowKit
open Go.ChangeMaps (open_string shut_string)
set_option linter.unusedVariables false      -- a walk need not use every 'w<i>' (that an integer argument fits its kind)

theorem own : ownKnob Try.prog.godebug = none := by kernel_rfl

/-! ### STEP 1: THE WALK: the Go text returns true. 'Grown w w'': the world has at most new blocks (Derived/RowKit3.lean). Part the cases AHEAD of 'go_enter' where a test parts the walk; take each callee by a contract of your own. -/
theorem walk (a0 : Int) (w0 : (Lit.int .i64 a0).wf = true) (w : World) :
    Calls Try.prog 6 #[.int .i64 a0] w fun e w' => e = .returned (.bool true) ∧ Grown w w' := by
  by_cases hin : -268435456 ≤ a0 ∧ a0 ≤ 268435456
  · obtain ⟨h1, h2⟩ := hin
    clear w0
    go_enter Try.func6, Try.ntmps6
    go_wp2_with fail
    refine (zztableSize_any a0 _ (by omega) (by omega)).mono ?_
    rintro e w' ⟨⟨i, rfl, hl⟩, hw⟩
    obtain rfl := hw.symm
    clear hw
    have hb := Sofar.bd hl.2 (by omega)
    have hne : i ≠ 1 := fun e => not_one (e ▸ hl)
    have HS := hide (sizeSteps_any i w hb)
    have hg := sz_ge i
    have k1 := hl.1
    have HFull := hide (Least.full hne)
    have HNext := hide (Least.next hne)
    have HFills := hide hl.fills
    have hpre : before i < ((sz i : Nat) : Int) ∧ (0 ≤ before i) ∧ (i ≠ 0 → 3 * before i < 4 * a0) := by
      unfold before
      by_cases h0 : i = 0
      · rw [if_pos h0]
        exact ⟨by omega, by omega, fun h => absurd h0 h⟩
      · rw [if_neg h0]
        have h3 := sz_lt_succ (i - 1)
        rw [show i - 1 + 1 = i by omega] at h3
        refine ⟨by omega, by omega, fun _ => ?_⟩
        rcases hl.2 with h4 | h4
        · exact absurd h4 h0
        · exact h4
    have hnx := sz_lt_succ i
    have hnb : sz (i + 1) ≤ 2 * sz i := by have := pow_le_sz i; have := sz_succ i; omega
    have hz : i = 0 ↔ sz i = 4 := by
      constructor
      · rintro rfl; rfl
      · intro h; omega
    obtain ⟨R, hR⟩ : ∃ R, R = sz i := ⟨_, rfl⟩
    obtain ⟨p, hp⟩ : ∃ p, p = before i := ⟨_, rfl⟩
    obtain ⟨x, hx⟩ : ∃ x, x = sz (i + 1) := ⟨_, rfl⟩
    rw [← hR, ← hp, ← hx] at HS
    rw [← hR] at HFull HNext HFills
    rw [← hR, ← hp] at hpre
    rw [← hR] at hb hg k1 hz ⊢
    rw [← hR, ← hx] at hnx hnb
    obtain ⟨p1, p2, p3⟩ := hpre
    have HR := hide hR
    have HP := hide hp
    have HX := hide hx
    clear hR hp hx hl
    have r4 : 4 ≤ R := by omega
    by_cases h0 : i = 0
    · subst h0
      have hR4 : R = 4 := hz.1 rfl
      subst hR4
      clear hz p3
      go_wp2_with fail
      refine (HS.out).mono ?_
      rintro e w' ⟨rfl, hw⟩
      obtain rfl := hw.symm
      clear hw
      go_wp2_with fail
      refine (zztableSize_any _ _ (by omega) (by omega)).mono ?_
      rintro e w' ⟨⟨i1, rfl, l1⟩, hw⟩
      obtain rfl := hw.symm
      clear hw
      have e1 : sz i1 = 4 := by
        have : i1 = 0 := l1.unique (by have := HFull.out; exact this)
        rw [this]; rfl
      rw [e1]
      clear e1 l1
      go_wp2_with fail
      refine (zztableSize_any _ _ (by omega) (by omega)).mono ?_
      rintro e w' ⟨⟨i2, rfl, l2⟩, hw⟩
      obtain rfl := hw.symm
      clear hw
      have e2 : sz i2 = 6 := by
        have : i2 = 2 := l2.unique (by have := HNext.out; exact this)
        rw [this]; rfl
      rw [e2]
      clear e2 l2
      go_wp2_with fail
      go_ret
      exact ⟨rfl, Grown.refl _⟩
    · have hR4 : 4 < R := by omega
      have p3' := p3 h0
      have hf := HFills.out h0
      clear hz p3
      go_wp2_with fail
      refine (HS.out).mono ?_
      rintro e w' ⟨rfl, hw⟩
      obtain rfl := hw.symm
      clear hw
      go_wp2_with fail
      refine (zztableSize_any _ _ (by omega) (by omega)).mono ?_
      rintro e w' ⟨⟨i1, rfl, l1⟩, hw⟩
      obtain rfl := hw.symm
      clear hw
      have e1 : sz i1 = R := by
        have : i1 = i := l1.unique HFull.out
        rw [this]; exact HR.out.symm
      rw [e1]
      clear e1 l1
      go_wp2_with fail
      refine (zztableSize_any _ _ (by omega) (by omega)).mono ?_
      rintro e w' ⟨⟨i2, rfl, l2⟩, hw⟩
      obtain rfl := hw.symm
      clear hw
      have e2 : sz i2 = x := by
        have : i2 = i + 1 := l2.unique (by have := HNext.out; rw [if_neg h0] at this; exact this)
        rw [this]; exact HX.out.symm
      rw [e2]
      clear e2 l2
      go_wp2_with fail
      go_ret
      exact ⟨rfl, Grown.refl _⟩
  · go_enter Try.func6, Try.ntmps6
    go_wp2
    all_goals
      go_ret
      exact ⟨rfl, Grown.refl _⟩

/-! ### THE ROW's STEP: WRITTEN OUT: LEAVE IT -/
set_option maxRecDepth 100000 in
theorem lifted (os : Os) (started : os.Started) (H : Type) (enc : TypeId × Value → H) :
    ReturnsInHanded {} Try.checked os 6 .any (Rows.fnTableSizeIsLeastStepAndRoundTripsSpec.pre6 enc Try.prog Try.f6 Rows.fnTableSizeIsLeastStepAndRoundTripsRow.domain false) (Rows.fnTableSizeIsLeastStepAndRoundTripsSpec.post enc Try.prog Try.f6 false true false false) := by
  refine returnsInHanded_of_change (C := Try.checked) own started (by kernel_rfl) Try.func6
    (ChangeSpec.witness6 (enc := enc) (C := Try.checked) false ⟨#[], #[.int .i64 0], []⟩ 8 (by kernel_rfl) (by kernel_rfl) (by kernel_rfl) (by kernel_rfl)) ?_
  intro W base args ds gs before hval0 hW hcnd _
  have hval : ∀ (j : Nat) t v, Try.f6.params[j]? = some t → args[j]? = some v → Value.okWide Try.prog W .any base t v := hval0
  have hW' := hW
  obtain ⟨p, q, hA0, hV, rfl, hfz, hnd⟩ := hW
  have hA : DataW.TrodAll enc Try.prog W 0 (fun _ => true) true Try.f6.params.toList args.toList ds p := hA0
  rw [Try.params6] at hA hval
  obtain ⟨v0, vs0, d0, ds0, p0, q0, hargs, rfl, rfl, h0, r0⟩ := trodAll_cons hA
  obtain ⟨rfl, rfl, rfl⟩ := trodAll_nil r0
  obtain rfl : args = #[v0] := by cases args; simp_all
  obtain ⟨rfl, rfl⟩ := trodVars_none hV
  obtain ⟨a0, rfl, rfl, rfl, w0⟩ := open_int Try.underlying3 (hval 0 3 v0 rfl rfl) h0
  clear hA0 hval0
  simp only [List.append_nil] at hW'
  refine (walk a0 w0 W).mono fun e W' ⟨he, hg⟩ => ?_
  subst he
  exact ⟨_, rfl, post_of_same (pa := []) (pv := []) hW' (fun _ _ _ => (trodAll_cons_mk (shut_bool Try.underlying4 _) trodAll_mk0)) (fun sp _ => (trodAll_cons_mk (shut_int Try.underlying3 w0) trodAll_mk0)) (fun _ _ => rfl) rfl
    (hg.frame _) hg.2.1 (ok_one (by kernel_rfl) rfl (okWide_bool_mk Try.underlying4 _))⟩

theorem over : Rows.fnTableSizeIsLeastStepAndRoundTripsRow.holds Try.pinned (OpenSpec.ofChange Rows.fnTableSizeIsLeastStepAndRoundTripsSpec) :=
  OpenClaim.holds_of_wide 6 Try.f6 rfl rfl rfl rfl rfl rfl rfl ⟨rfl, rfl, rfl, rfl, rfl⟩ rfl rfl rfl rfl rfl (by kernel_rfl) Try.func6 (by kernel_rfl)
    (of_decide_eq_true (by kernel_rfl)) (by unfold Func.isWrapper; first | (rw [if_pos (by decide +kernel)]; kernel_rfl) | (rw [if_neg (by decide +kernel)]; exact ⟨rfl, rfl⟩))
    (fun os started H enc _ => lifted os started H enc)

/-- ████ THE STATEMENT ████ -/
theorem proved : Rows.FnTableSizeIsLeastStepAndRoundTripsSaid :=
  over
end Go.Proofs.Qxb6619276a.fnTableSizeIsLeastStepAndRoundTrips
