import Derived.Test.Qxb6618387aClone
namespace Go.Proofs.Qxb6618387a
open Go.RowKit
attribute [local go_sem ↓] Go.wp_at_zero Go.wp_at_succ

/-- Where a slice begins that is cut at its head by k. -/
def headAt (p : Option Addr) (c k : Nat) : Option Addr := if c = k then p else p.map (·.add k)

theorem run_head (p : Option Addr) (n c k : Nat) (hk : k ≤ n) (w : World) :
    (Instr.slice 22 (.slice p n c) (some (.int .i64 (k : Int))) none none).run Try.prog w = .ok (.slice (headAt p c k) (n - k) (c - k)) w := by
  rw [run_slice_l w 22 p n c Try.underlying22 .i64 k (by omega) (by omega)]
  have hs : (Go.sizeOf (Try.prog.elem 22)).run Try.prog w = .ok 1 w := by kernel_rfl
  rw [hs]
  simp [sliced, headAt, Result.andThen]
theorem run_upto (p : Option Addr) (n c k : Nat) (hk : k ≤ n) (hc : n ≤ c) (w : World) :
    (Instr.slice 22 (.slice p n c) none (some (.int .i64 (k : Int))) none).run Try.prog w = .ok (.slice p k c) w := by
  rw [run_slice_h w 22 p n c Try.underlying22 .i64 k (by omega) (by omega)]
  have hs : (Go.sizeOf (Try.prog.elem 22)).run Try.prog w = .ok 1 w := by kernel_rfl
  rw [hs]
  cases p <;> simp [sliced, Result.andThen, Addr.add]

theorem fileAt_take {fs : List (List Int)} {k i : Nat} (h : i < k) : fileAt (fs.take k) i = fileAt fs i := by
  unfold fileAt; simp [List.getD, h]
theorem fileAt_drop (fs : List (List Int)) (k i : Nat) : fileAt (fs.drop k) i = fileAt fs (k + i) := by
  unfold fileAt; simp [List.getD]

theorem IsFiles.take {w : World} {p : Option Addr} {n k : Nat} {fs : List (List Int)} (h : IsFiles w p n fs) (hk : k ≤ n) : IsFiles w p k (fs.take k) := by
  obtain ⟨hl, h | ⟨b, o, A, L, C, rfl, h⟩⟩ := h
  · exact ⟨by simp; omega, .inl (by omega)⟩
  · exact ⟨by simp; omega, .inr ⟨b, o, A, L, C, rfl, fun i hi => ⟨(h i (by omega)).1, by rw [fileAt_take hi]; exact (h i (by omega)).2⟩⟩⟩

theorem IsFiles.drop {w : World} {p : Option Addr} {n c k : Nat} {fs : List (List Int)} (h : IsFiles w p n fs) (hk : k ≤ n) (hc : n ≤ c) : IsFiles w (headAt p c k) (n - k) (fs.drop k) := by
  obtain ⟨hl, h | ⟨b, o, A, L, C, rfl, h⟩⟩ := h
  · exact ⟨by simp; omega, .inl (by omega)⟩
  · refine ⟨by simp; omega, ?_⟩
    by_cases e : c = k
    · exact .inl (by omega)
    · right
      refine ⟨b, o + k, fun i => A (k + i), fun i => L (k + i), fun i => C (k + i), by unfold headAt; rw [if_neg e]; simp [Addr.add_lit], fun i hi => ?_⟩
      rw [Nat.add_assoc, fileAt_drop]
      exact h (k + i) (by omega)

theorem cut_split (u1 u2 : ByteArray) (fs1 fs2 : List (List Int)) (k : Nat) :
    sameB u1 fs1 u2 fs2 = (sameB u1 (fs1.take k) u2 (fs2.take k) && sameB ⟨#[]⟩ (fs1.drop k) ⟨#[]⟩ (fs2.drop k)) := by
  unfold sameB
  rw [Bool.eq_iff_iff]
  simp only [Bool.and_eq_true, decide_eq_true_eq, true_and]
  constructor
  · rintro ⟨rfl, rfl⟩
    exact ⟨⟨rfl, rfl⟩, rfl⟩
  · rintro ⟨⟨hu, ht⟩, hd⟩
    exact ⟨hu, by rw [← List.take_append_drop k fs1, ← List.take_append_drop k fs2, ht, hd]⟩

theorem cut_swap (u1 u2 : ByteArray) (fs1 fs2 : List (List Int)) : sameB u2 fs2 u1 fs1 = sameB u1 fs1 u2 fs2 := by
  unfold sameB
  rw [Bool.eq_iff_iff]
  simp only [decide_eq_true_eq]
  exact ⟨fun h => ⟨h.1.symm, h.2.symm⟩, fun h => ⟨h.1.symm, h.2.symm⟩⟩

theorem cut_own (u : ByteArray) (fs : List (List Int)) : sameB u fs u fs = true := by
  unfold sameB
  simp

set_option maxHeartbeats 2000000 in
set_option maxRecDepth 100000 in
theorem cut_walk (p p' : Option Addr) (n c n' c' : Nat) (u t : ByteArray) (i : Int) (fs fs' : List (List Int)) (w : World) (h : IsFiles w p n fs) (h' : IsFiles w p' n' fs') (hc : n ≤ c) (hc' : n' ≤ c') :
    Calls Try.prog 3 #[.slice p n c, .string u, .slice p' n' c', .string t, .int .i64 i] w fun e w' => e = .returned (.bool true) ∧ Below w.heap.size w w' := by
  have H := hide h
  have H' := hide h'
  clear h h'
  by_cases hsz : u.size + t.size ≤ 1048576
  · go_enter Try.func3, Try.ntmps3
    go_wp2_with fail
    refine (zzBytesCut_any _ _ _ _ _ _ _ _ _ _ _ _ H.out H'.out).mono ?_
    rintro e w' ⟨⟨b, rfl, hsm⟩, hw⟩
    obtain rfl := hw.symm
    clear hw
    have hn : b = true → n ≤ 1048576 := fun hb => hsm hb n (by simp)
    have hn' : b = true → n' ≤ 1048576 := fun hb => hsm hb n' (by simp)
    clear hsm
    cases b
    · go_wp2
      go_ret
      exact ⟨rfl, Below.refl _ _⟩
    replace hn := hn rfl
    replace hn' := hn' rfl
    go_wp2_with fail
    refine (filesSum_any _ _ _ _ fs _ H.out (by omega) (by omega) hn).mono ?_
    rintro e w' ⟨⟨r, rfl, hr1, hr2, hsm⟩, hw⟩
    obtain rfl := hw.symm
    clear hw
    have HSM := hide hsm
    clear hsm
    by_cases hr : r < 0
    · go_wp2
      go_ret
      exact ⟨rfl, Below.refl _ _⟩
    have HSM := hide (HSM.out (by omega))
    go_wp2_with fail
    refine (filesSum_any _ _ _ _ fs' _ H'.out (by omega) (by omega) hn').mono ?_
    rintro e w' ⟨⟨r', rfl, hr1', hr2', _⟩, hw⟩
    obtain rfl := hw.symm
    clear hw
    by_cases hr' : r' < 0
    · go_wp2
      go_ret
      exact ⟨rfl, Below.refl _ _⟩
    by_cases hin : 0 ≤ i ∧ i ≤ n ∧ i ≤ n'
    · obtain ⟨hin0, hin1, hin2⟩ := hin
      obtain ⟨j, rfl⟩ : ∃ j : Nat, i = (j : Int) := ⟨i.toNat, by omega⟩
      have y1 := run_head p n c j (by omega)
      have y2 := run_head p' n' c' j (by omega)
      have y3 := run_upto p n c j (by omega) hc
      have y4 := run_upto p' n' c' j (by omega) hc'
      go_wp2_with fail
      refine (zzsame_any _ _ _ _ _ _ _ _ _ _ _ H.out H'.out (by omega)).mono ?_
      rintro e w1 ⟨rfl, hb1⟩
      have K1 := hide hb1
      clear hb1
      have F1 : Hid (∀ x, Keeps w1 x → IsFiles x p n fs) := fun x hx => (H.out.ext (Below.keeps K1.out)).ext hx
      have F2 : Hid (∀ x, Keeps w1 x → IsFiles x p' n' fs') := fun x hx => (H'.out.ext (Below.keeps K1.out)).ext hx
      have hj1 : (j : Int) ≤ (n : Int) := by omega
      have hj2 : (j : Int) ≤ (n' : Int) := by omega
      go_wp2_with fail
      go_region_held3 (fun _ => True) (trivial) (((go_at_call 7; go_must (refine (zzsame_any _ _ _ _ _ _ _ _ (fs.take j) (fs'.take j) _ ((F1.out _ (by exact fun _ _ h => h)).take (by omega)) ((F2.out _ (by exact fun _ _ h => h)).take (by omega)) (by omega)).mono ?_; rintro e w2 ⟨rfl, hb2⟩))))
      have K2 := hide (keeps_drew hb2)
      have B2 : Hid (Below w.heap.size w w2) := K1.out.trans (Below.mono ((Below.drew (Below.refl _ _)).trans hb2) K1.out.size)
      clear hb2
      have G1 : Hid (∀ x, Keeps w2 x → IsFiles x p n fs) := fun x hx => F1.out x (fun a v hv => hx a v (K2.out a v hv))
      have G2 : Hid (∀ x, Keeps w2 x → IsFiles x p' n' fs') := fun x hx => F2.out x (fun a v hv => hx a v (K2.out a v hv))
      clear F1 F2 K1 K2
      go_wp2_with fail
      go_region_held3 (fun _ => True) (trivial) (((go_at_call 7; go_must (refine (zzsame_any _ _ _ _ _ _ _ _ (fs.drop j) (fs'.drop j) _ ((G1.out _ (by exact fun _ _ h => h)).drop (by omega) (by omega)) ((G2.out _ (by exact fun _ _ h => h)).drop (by omega) (by omega)) (by omega)).mono ?_; rintro e w3 ⟨rfl, hb3⟩))))
      have K3 := hide (keeps_drew hb3)
      have B3 : Hid (Below w.heap.size w w3) := B2.out.trans (Below.mono ((Below.drew (Below.refl _ _)).trans hb3) B2.out.size)
      have E1 : Hid (IsFiles w3 p n fs) := G1.out _ K3.out
      have E2 : Hid (IsFiles w3 p' n' fs') := G2.out _ K3.out
      clear hb3 G1 G2 K3 B2 y1 y2 y3 y4
      go_wp2_with fail
      refine (zzsame_any _ _ _ _ _ _ _ _ _ _ _ E2.out E1.out (by omega)).mono ?_
      rintro e w4 ⟨rfl, hb4⟩
      have K4 := hide hb4
      clear hb4
      go_wp2_with fail
      refine (cloneFiles_any _ _ _ fs _ (E1.out.ext (Below.keeps K4.out)) hn HSM.out).mono ?_
      rintro e w5 ⟨⟨p5, c5, rfl, hf5⟩, hb5⟩
      have E5 := hide hf5
      have K5 := hide hb5
      have B5 : Hid (Below w.heap.size w w5) := B3.out.trans ((K4.out.trans (K5.out.mono K4.out.size)).mono B3.out.size)
      clear hf5 hb5
      go_wp2_with fail
      refine (zzsame_any _ _ _ _ _ _ _ _ _ _ _ ((E1.out.ext (Below.keeps K4.out)).ext (Below.keeps K5.out)) E5.out (by omega)).mono ?_
      rintro e w6 ⟨rfl, hb6⟩
      have z1 := cut_split u t fs fs' j
      have z2 := cut_swap u t fs fs'
      have z3 := cut_own u fs
      have B6 : Hid (Below w.heap.size w w6) := B5.out.trans (hb6.mono B5.out.size)
      clear hb6 HSM E1 E2 K4 K5 B3 B5 E5
      go_wp2_with fail
      all_goals
        go_ret
        exact ⟨congrArg (fun b => Ending.returned (.bool b)) (by simp), B6.out⟩
    · go_wp2
      all_goals
        go_ret
        exact ⟨rfl, Below.refl _ _⟩
  · go_enter Try.func3, Try.ntmps3
    go_wp2_with fail
    refine (zzBytesCut_any _ _ _ _ _ _ _ _ _ _ _ _ H.out H'.out).mono ?_
    rintro e w' ⟨⟨b, rfl, hsm⟩, hw⟩
    obtain rfl := hw.symm
    clear hw hsm
    cases b
    · go_wp2
      go_ret
      exact ⟨rfl, Below.refl _ _⟩
    go_wp2_with fail
    all_goals
      go_ret
      exact ⟨rfl, Below.refl _ _⟩
end Go.Proofs.Qxb6618387a
