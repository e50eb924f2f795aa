import Derived.Test.Qxb6619252aPick
import Derived.BigRegion
namespace Go.Proofs.Qxb6619252a
open Go.RowKit
attribute [local go_sem] run_store_float

theorem spread_a (p : Option Addr) (cap n : Nat) (zs : List Nat) (hn : n = zs.length) (hlen : n ≤ 2097152) (h1 : 1 ≤ n) (w : World) (h : IsFigs w p zs) :
    Calls Try.prog 8 #[.slice p n cap] w fun e w' => RetSpread e (sortedOf zs) n ∧ Below w.heap.size w w' := by
  subst hn
  exact spreadOf_any p cap zs hlen (fun e => by subst e; simp at h1) w h.figs

/-- The tail from the cut reversed, then the head. -/
def turned (zs : List Nat) (c : Nat) : List Nat := (zs.drop c).reverse ++ zs.take c

theorem turned_perm (zs : List Nat) (c : Nat) : (turned zs c).Perm zs := by
  unfold turned
  refine ((List.reverse_perm _).append_right _).trans ?_
  refine List.perm_append_comm.trans ?_
  rw [List.take_append_drop]

/-- hs (n figures) is zs turned at c. -/
def Turn (hs zs : List Nat) (c n : Nat) : Prop :=
  n = hs.length ∧ (∀ k, k < n - c → fig hs k = fig zs (n - 1 - k)) ∧ (∀ k, k < c → fig hs (n - c + k) = fig zs k) ∧ hs.Perm zs

theorem turn_of {hs zs : List Nat} {c n : Nat} (hh : hs = turned zs c) (hn : n = zs.length) (hc : c ≤ n) : Turn hs zs c n := by
  subst hh hn
  have hl : (turned zs c).length = zs.length := (turned_perm zs c).length_eq
  refine ⟨hl.symm, fun k hk => ?_, fun k hk => ?_, turned_perm zs c⟩
  · unfold turned fig
    simp only [List.getD]
    rw [List.getElem?_append_left (by simp; omega), List.getElem?_reverse (by simp; omega), List.getElem?_drop]
    congr 2
    simp
    omega
  · unfold turned fig
    simp only [List.getD]
    rw [List.getElem?_append_right (by simp)]
    simp
    rw [List.getElem?_take_of_lt hk]

/-- The mean of two figures, as the model reckons it (a NaN's bits are drawn). -/
theorem med_run (A B : Nat) : ∃ (fA : World → Nat) (da : Nat) (fQ : World → World → Nat) (dq : Nat), (∀ w, (binOp .add 24 (.float .f64 A) (.float .f64 B)).run Try.prog w = .ok (.float .f64 (fA w)) (w.drewN da)) ∧
    (∀ w w', (binOp .quo 24 (.float .f64 (fA w')) (.float .f64 4611686018427387904)).run Try.prog w = .ok (.float .f64 (fQ w w')) (w.drewN dq)) ∧ ∀ w w', MedOf A B (fQ w w') := by
  cases hadd : Ieee.double.add A B with
  | none =>
    exact ⟨fun w => nanAt w A B, 1, fun w w' => nanAt w (nanAt w' A B) 4611686018427387904, 1, fun w => run_add_none w 24 A B hadd, fun w w' => run_quo_none w 24 _ _ (div_nan (nanAt_nan w' A B) _),
      fun w w' => ⟨_, .inr ⟨hadd, nanAt_nan w' A B⟩, .inr ⟨div_nan (nanAt_nan w' A B) _, nanAt_nan _ _ _⟩⟩⟩
  | some sm =>
    cases hdiv : Ieee.double.div sm two with
    | none => exact ⟨fun _ => sm, 0, fun w _ => nanAt w sm 4611686018427387904, 1, fun w => run_float_arith w .add 24 .f64 A B sm hadd, fun w _ => run_quo_none w 24 sm _ hdiv, fun w _ => ⟨sm, .inl hadd, .inr ⟨hdiv, nanAt_nan _ _ _⟩⟩⟩
    | some m => exact ⟨fun _ => sm, 0, fun _ _ => m, 0, fun w => run_float_arith w .add 24 .f64 A B sm hadd, fun w _ => run_float_arith w .quo 24 .f64 sm 4611686018427387904 m hdiv, fun w _ => ⟨sm, .inl hadd, .inl hdiv⟩⟩

theorem any_law {zs hs : List Nat} {n A B C D m m1 m2 : Nat} (hn : n = zs.length) (hn1 : 1 ≤ n) (hp : hs.Perm zs)
    (hA : Rel false A (fig (sortedOf zs) ((n - 1) / 2))) (hB : Rel false B (fig (sortedOf zs) (n / 2))) (hC : Rel false C (fig (sortedOf zs) 0)) (hD : Rel false D (fig (sortedOf zs) (n - 1)))
    (hm : MedOf A B m) (hm1 : MedOf (fig (sortedOf zs) ((n - 1) / 2)) (fig (sortedOf zs) (n / 2)) m1) (hm2 : MedOf (fig (sortedOf hs) ((n - 1) / 2)) (fig (sortedOf hs) (n / 2)) m2) :
    (sameF m1 m = true ∧ sameF (fig (sortedOf zs) 0) C = true ∧ sameF (fig (sortedOf zs) (n - 1)) D = true) ∧
      sameF m2 m1 = true ∧ sameF (fig (sortedOf hs) 0) (fig (sortedOf zs) 0) = true ∧ sameF (fig (sortedOf hs) (n - 1)) (fig (sortedOf zs) (n - 1)) = true := by
  have r : ∀ i, i < n → Rel false (fig (sortedOf hs) i) (fig (sortedOf zs) i) := fun i hi => sorted_as (asc_sorted hs) ((perm_sorted hs).trans hp) (by omega)
  refine ⟨⟨(sameF_iff _ _).2 ?_, (sameF_iff _ _).2 hC.symm, (sameF_iff _ _).2 hD.symm⟩, (sameF_iff _ _).2 ?_, (sameF_iff _ _).2 (r 0 (by omega)), (sameF_iff _ _).2 (r (n - 1) (by omega))⟩
  · exact (MedOf.rel hA hB hm hm1).symm
  · exact MedOf.rel (r _ (by omega)) (r _ (by omega)) hm2 hm1

set_option maxHeartbeats 4000000 in
set_option maxRecDepth 100000 in
theorem any_walk (p : Option Addr) (cap : Nat) (zs : List Nat) (cut : Int) (w : World) (h : IsFigs w p zs) (hp : p = none → zs = []) :
    Calls Try.prog 3 #[.slice p zs.length cap, .int .i64 cut] w fun e w' => e = .returned (.bool true) ∧ Below w.heap.size w w' := by
  obtain ⟨i0, hi0, hz0, hz1, hz2⟩ := info_parts Try.info24
  have H := hide h
  clear h
  obtain ⟨n, hn⟩ : ∃ n, n = zs.length := ⟨_, rfl⟩
  rw [← hn]
  have HN := hide hn
  have HP := hide hp
  clear hn hp
  go_enter Try.func3, Try.ntmps3
  go_wp2_with fail
  refine (zzBytes3_any _ _ _ _ _ rfl _).mono ?_
  rintro e w' ⟨⟨b, rfl⟩, hw⟩
  obtain rfl := hw.symm
  clear hw
  cases b
  · go_wp2
    go_ret
    exact ⟨rfl, Below.refl _ _⟩
  by_cases hbig : n ≤ 4096
  · cases p with
    | none =>
      obtain rfl : 0 = n := by rw [HN.out, HP.out rfl]; rfl
      go_wp2
      go_ret
      exact ⟨rfl, Below.refl _ _⟩
    | some x =>
      have HSRC := hide (figs_src H.out)
      by_cases h0 : n = 0
      · obtain rfl : 0 = n := by omega
        go_wp2_with (first
          | (at_make; refine wpList_make_full _ rfl _ _ 22 rfl w.heap.size 24 i0 (.float .f64 0) 1 Try.underlying22 hi0 hz0 hz1 .i64 .i64 _ _ 0 rfl rfl rfl rfl (by rw [hz2]; omega) (by unfold maxLen; omega) (Nat.le_refl _) ?_; intro w1 hown hgrow; have hB1 : Below w.heap.size w w1 := (Below.refl _ _).grown hgrow (Nat.le_refl _) (fun k hk => by cases hk); obtain ⟨cur, hcur, hcl⟩ := own_block hown; have HCUR := hide hcur; have HCL := hide hcl; have HB1 := hide hB1; clear hown hgrow hcur hcl hB1)
          | (with_reducible refine at_copy (.tmp 27) (.tmp 28) 22 22 rfl ?_; refine wpList_copy_splice rfl (.tmp 27) (.tmp 28) 22 22 rfl 24 Try.underlying22 Try.size24 (some ⟨w.heap.size, 0, none⟩) (some x) 0 0 0 cap rfl rfl w.heap.size 0 cur 24 HCUR.out (zs.map encF) (by rw [List.length_map, ← HN.out]; exact (Nat.min_self 0).symm) (fun _ => ⟨rfl, x, rfl, fun j v hv => keepsB HB1.out _ _ (HSRC.out j v hv)⟩) (by rw [List.length_map, HCL.out, ← HN.out]; omega) (all_float zs) w.heap.size w HB1.out (Nat.le_refl _) ?_; intro w2 HG2 hB2; have HB2 := hide hB2; clear hB2 HG2))
        go_ret
        exact ⟨rfl, HB2.out⟩
      · have hn1 : 1 ≤ n := by omega
        by_cases hin : 0 ≤ cut ∧ cut ≤ n
        · obtain ⟨ha0, ha1⟩ := hin
          obtain ⟨c, rfl⟩ : ∃ j : Nat, cut = (j : Int) := ⟨cut.toNat, by omega⟩
          obtain ⟨hs, hhs⟩ : ∃ hs, hs = turned zs c := ⟨_, rfl⟩
          have HT := hide (turn_of hhs HN.out (by omega))
          clear hhs
          go_wp2_with (first
            | (at_make; refine wpList_make_full _ rfl _ _ 22 rfl w.heap.size 24 i0 (.float .f64 0) 1 Try.underlying22 hi0 hz0 hz1 .i64 .i64 _ _ n rfl rfl rfl rfl (by rw [hz2]; omega) (by unfold maxLen; omega) (Nat.le_refl _) ?_; intro w1 hown hgrow; have hB1 : Below w.heap.size w w1 := (Below.refl _ _).grown hgrow (Nat.le_refl _) (fun k hk => by cases hk); obtain ⟨cur, hcur, hcl⟩ := own_block hown; have HCUR := hide hcur; have HCL := hide hcl; have HB1 := hide hB1; clear hown hgrow hcur hcl hB1)
            | (with_reducible refine at_copy (.tmp 27) (.tmp 28) 22 22 rfl ?_; refine wpList_copy_splice rfl (.tmp 27) (.tmp 28) 22 22 rfl 24 Try.underlying22 Try.size24 (some ⟨w.heap.size, 0, none⟩) (some x) n n n cap rfl rfl w.heap.size 0 cur 24 HCUR.out (zs.map encF) (by rw [List.length_map, ← HN.out]; exact (Nat.min_self n).symm) (fun _ => ⟨rfl, x, rfl, fun j v hv => keepsB HB1.out _ _ (HSRC.out j v hv)⟩) (by rw [List.length_map, HCL.out, ← HN.out]; omega) (all_float zs) w.heap.size w HB1.out (Nat.le_refl _) ?_; intro w2 HG2 hB2; have HOWN := hide (copied HG2.out (HCL.out.trans HN.out) (Nat.le_refl _) (by rw [← HN.out]; unfold maxLen; omega)); have HB2 := hide hB2; clear hB2 HG2)
            | (at_make; refine wpList_make_own _ rfl _ _ 22 rfl w2.heap.size 24 i0 (.float .f64 0) 1 Try.underlying22 hi0 hz0 hz1 .i64 .i64 _ n rfl rfl (by omega) (by rw [hz2]; omega) (by unfold maxLen; omega) (Nat.le_refl _) ?_; intro w4 hown hgrow))
          have HF := hide (own_figs HOWN.out)
          clear HSRC HCUR HCL HB1 H HOWN
          have hB0 : Below w2.heap.size w2 w4 := (Below.refl _ _).grown hgrow (Nat.le_refl _) (fun k hk => by cases hk)
          clear hgrow
          go_loopw [7, 8] (fun v x wr => ∃ (k : Nat) (i : Int), i + 1 + k = n ∧ k ≤ n - c ∧ x = .int .i64 i ∧ v = .slice (some ⟨w2.heap.size, 0, none⟩) k n ∧ wr.ownsRow w2.heap.size 24 1 (.slice (some ⟨w2.heap.size, 0, none⟩) k n) k (cellsTo hs k) ∧ Below w2.heap.size w2 wr) (fun _ x _ => (intOf x + 1).toNat)
          case atStart => exact ⟨0, (n : Int) - 1, by omega, Nat.zero_le _, by go_num, rfl, hown, hB0⟩
          case round =>
            clear hown hB0
            obtain ⟨k, i, hik, hk, rfl, rfl, hown, hB⟩ := hrel
            by_cases hlt : (c : Int) ≤ i
            · obtain ⟨q, rfl⟩ : ∃ q : Nat, i = (q : Int) := ⟨i.toNat, by omega⟩
              have hq : q = n - 1 - k := by omega
              have e1 : wr.cell? _ = _ := keepsB hB _ _ (HF.out.at HN.out (k := q) (by omega))
              have HW := hide hB
              have hle : w2.heap.size ≤ wr.heap.size := hB.size
              clear hB
              have hqn : (q : Int) < (n : Int) := by omega
              have hq0 : (0 : Int) ≤ (q : Int) := by omega
              have HQ := hide hq
              clear hq
              go_wp2_with (at_builtin; refine wpList_append_fits _ rfl (.tmp 51) (.tmp 56) 22 rfl w2.heap.size 24 i0 1 Try.underlying22 hi0 hz1 w2.heap.size k n (cellsTo hs k) rfl (hown.alloc _) ⟨wr.heap.size, 0, none⟩ 1 1 [.float .f64 (fig zs q)] rfl rfl (cell_one_new _ _ _) (one_float _) (by omega) ?_; intro w5 hown2 hg2)
              have hB2 : Below w2.heap.size w2 w5 := app_below HW.out hg2 (Nat.le_refl _)
              rw [cellsTo_snoc (by rw [← HT.out.1]; omega) (by rw [HT.out.2.1 k (by omega), HQ.out])] at hown2
              clear hg2 hown
              go_roundw
              case rel => exact ⟨k + 1, (q : Int) - 1, by omega, by omega, by go_num, rfl, hown2, hB2⟩
              case measure => simp [intOf]
            · obtain rfl : n - c = k := by omega
              obtain ⟨d, hd⟩ : ∃ d, d = n - c := ⟨_, rfl⟩
              rw [← hd] at hown ⊢
              have hdc : d + c = n := by omega
              have HT3 : Hid (∀ k, k < c → fig hs (d + k) = fig zs k) := by rw [hd]; exact HT.out.2.2.1
              clear hd
              go_wp2_with fail
              clear hik hk hlt
              go_loopw [7, 9] (fun v x wr => ∃ (k : Nat), k ≤ c ∧ x = .int .i64 k ∧ v = .slice (some ⟨w2.heap.size, 0, none⟩) (d + k) n ∧ wr.ownsRow w2.heap.size 24 1 (.slice (some ⟨w2.heap.size, 0, none⟩) (d + k) n) (d + k) (cellsTo hs (d + k)) ∧ Below w2.heap.size w2 wr) (fun _ x _ => c - (intOf x).toNat)
              case atStart => exact ⟨0, Nat.zero_le _, rfl, rfl, hown, hB⟩
              case round =>
                clear hown hB
                obtain ⟨k, hk, rfl, rfl, hown, hB⟩ := hrel
                by_cases hlt : k < c
                · have e1 : wr.cell? _ = _ := keepsB hB _ _ (HF.out.at HN.out (k := k) (by omega))
                  have HW := hide hB
                  have hle : w2.heap.size ≤ wr.heap.size := hB.size
                  clear hB
                  go_wp2_with (at_builtin; refine wpList_append_fits _ rfl (.tmp 63) (.tmp 68) 22 rfl w2.heap.size 24 i0 1 Try.underlying22 hi0 hz1 w2.heap.size (d + k) n (cellsTo hs (d + k)) rfl (hown.alloc _) ⟨wr.heap.size, 0, none⟩ 1 1 [.float .f64 (fig zs k)] rfl rfl (cell_one_new _ _ _) (one_float _) (by omega) ?_; intro w5 hown2 hg2)
                  have hB2 : Below w2.heap.size w2 w5 := app_below HW.out hg2 (Nat.le_refl _)
                  rw [cellsTo_snoc (by rw [← HT.out.1]; omega) (HT3.out k hlt)] at hown2
                  clear hg2 hown
                  go_roundw
                  case rel => exact ⟨k + 1, by omega, by go_num, rfl, hown2, hB2⟩
                  case measure => simp [intOf]; omega
                · obtain rfl : c = k := by omega
                  clear hlt hk
                  rw [hdc] at hown ⊢
                  have HF0 := hide (HF.out.keep hB)
                  have HF2 := hide (cellsTo_figs HT.out.1 hown)
                  have HBW := hide (HB2.out.trans (hB.mono HB2.out.size))
                  have HPM := hide HT.out.2.2.2
                  have HHL := hide HT.out.1
                  obtain ⟨g1, hg1⟩ : ∃ g1, g1 = w2.heap.size := ⟨_, rfl⟩
                  rw [← hg1] at HF2 ⊢
                  clear hg1 hown hB HF HB2 HT HT3
                  obtain ⟨k1, hk1⟩ : ∃ k1, k1 = n - 1 := ⟨_, rfl⟩
                  obtain ⟨q1, hq1⟩ : ∃ q1, q1 = k1 / 2 := ⟨_, rfl⟩
                  obtain ⟨q2, hq2⟩ : ∃ q2, q2 = n / 2 := ⟨_, rfl⟩
                  have x1 : IntKind.i64.wrap ((n : Int) - 1) = (k1 : Int) := by rw [IntKind.wrap_i64]; omega
                  have x2 : ((k1 : Int)).tdiv 2 = (q1 : Int) := by rw [Int.tdiv_eq_ediv_of_nonneg (by omega)]; omega
                  have x3 : ((n : Int)).tdiv 2 = (q2 : Int) := by rw [Int.tdiv_eq_ediv_of_nonneg (by omega)]; omega
                  have x4 : IntKind.i64.wrap (q1 : Int) = (q1 : Int) := by rw [IntKind.wrap_i64]; omega
                  have x5 : IntKind.i64.wrap (q2 : Int) = (q2 : Int) := by rw [IntKind.wrap_i64]; omega
                  have x6 : IntKind.i64.wrap (k1 : Int) = (k1 : Int) := by rw [IntKind.wrap_i64]; omega
                  have i3 : q1 < n := by omega
                  have i4 : q2 < n := by omega
                  have i5 : k1 < n := by omega
                  have HQ : Hid (q1 = (n - 1) / 2 ∧ q2 = n / 2 ∧ k1 = n - 1) := ⟨by rw [hq1, hk1], hq2, hk1⟩
                  clear hk1 hq1 hq2
                  go_wp2_with fail
                  refine (zzRankPick_any _ _ n q1 zs HN.out hbig i3 _ (HF0.out.keep (Below.refl _ _))).mono ?_
                  rintro e w9 ⟨⟨A, rfl, hA⟩, hw9⟩
                  obtain rfl := hw9.symm
                  have HA := hide hA
                  clear hw9 hA
                  go_wp2_with fail
                  refine (zzRankPick_any _ _ n q2 zs HN.out hbig i4 _ (HF0.out.keep (Below.refl _ _))).mono ?_
                  rintro e w9 ⟨⟨B, rfl, hB⟩, hw9⟩
                  obtain rfl := hw9.symm
                  have HB := hide hB
                  clear hw9 hB
                  obtain ⟨fA, da, fQ, dq, rA, rQ, hMED⟩ := med_run A B
                  have HMED := hide hMED
                  clear hMED
                  have HFX := hide (HF0.out.keep (below_drewN (Below.refl _ _) (da + dq)))
                  have HFY := hide (HF2.out.keep (below_drewN (Below.refl _ _) (da + dq)))
                  have HBX := hide (below_drewN HBW.out (da + dq))
                  obtain ⟨X, hX⟩ : ∃ X, X = wr.drewN (da + dq) := ⟨_, rfl⟩
                  go_wp2_with fail
                  rw [← hX] at HFX HFY HBX ⊢
                  clear hX HF0 HF2 HBW
                  refine (zzRankPick_any _ _ n 0 zs HN.out hbig (by omega) _ HFX.out).mono ?_
                  rintro e w9 ⟨⟨C, rfl, hC⟩, hw9⟩
                  obtain rfl := hw9.symm
                  have HC := hide hC
                  clear hw9 hC
                  go_wp2_with fail
                  refine (zzRankPick_any _ _ n k1 zs HN.out hbig i5 _ HFX.out).mono ?_
                  rintro e w9 ⟨⟨D, rfl, hD⟩, hw9⟩
                  obtain rfl := hw9.symm
                  have HD := hide hD
                  clear hw9 hD
                  have HM := hide (HMED.out (wr.drewN da) wr)
                  obtain ⟨m, hm⟩ : ∃ m, m = fQ (wr.drewN da) wr := ⟨_, rfl⟩
                  rw [← hm] at HM ⊢
                  clear hm HMED rA rQ
                  obtain ⟨x7, hx7⟩ : ∃ x7, x7 = X.alloc (.cells #[.float .f64 m, .float .f64 C, .float .f64 D] 27) := ⟨_, rfl⟩
                  have hb7 : Below X.heap.size X x7 := by rw [hx7]; exact (Below.refl _ _).alloc (Nat.le_refl _) _
                  have HC7 : Hid (x7.cell? ⟨X.heap.size, 0, none⟩ = some (.float .f64 m) ∧ x7.cell? ⟨X.heap.size, 1, none⟩ = some (.float .f64 C) ∧ x7.cell? ⟨X.heap.size, 2, none⟩ = some (.float .f64 D)) := by
                    rw [hx7]
                    exact ⟨by rw [World.cell?_alloc_at _ _ _ _ rfl]; rfl, by rw [World.cell?_alloc_at _ _ _ _ rfl]; rfl, by rw [World.cell?_alloc_at _ _ _ _ rfl]; rfl⟩
                  have HFX7 := hide (HFX.out.keep hb7)
                  have HFY7 := hide (HFY.out.keep hb7)
                  have HB7 := hide (HBX.out.trans (hb7.mono HBX.out.size))
                  clear hb7 HFX HFY HBX
                  go_wp2_with fail
                  rw [← hx7]
                  clear hx7
                  refine (spread_a _ _ _ zs HN.out (by omega) hn1 _ HFX7.out).mono ?_
                  rintro e w6 ⟨⟨m1, rfl, hm1⟩, hb6⟩
                  have HM1 := hide hm1
                  have HFY6 := hide (HFY7.out.keep hb6)
                  have HB6 := hide (HB7.out.trans (hb6.mono HB7.out.size))
                  have HC6 : Hid (w6.cell? ⟨X.heap.size, 0, none⟩ = some (.float .f64 m) ∧ w6.cell? ⟨X.heap.size, 1, none⟩ = some (.float .f64 C) ∧ w6.cell? ⟨X.heap.size, 2, none⟩ = some (.float .f64 D)) := ⟨keepsB hb6 _ _ HC7.out.1, keepsB hb6 _ _ HC7.out.2.1, keepsB hb6 _ _ HC7.out.2.2⟩
                  clear hm1 hb6 HFY7 HFX7 HB7 HC7
                  obtain ⟨E, hE⟩ : ∃ E, E = fig (sortedOf zs) 0 := ⟨_, rfl⟩
                  obtain ⟨F, hF⟩ : ∃ F, F = fig (sortedOf zs) (n - 1) := ⟨_, rfl⟩
                  rw [← hE, ← hF]
                  have HE := hide hE
                  have HFF := hide hF
                  clear hE hF
                  obtain ⟨y7, hy7⟩ : ∃ y7, y7 = w6.alloc (.cells #[.float .f64 m1, .float .f64 E, .float .f64 F] 27) := ⟨_, rfl⟩
                  have hb7 : Below w6.heap.size w6 y7 := by rw [hy7]; exact (Below.refl _ _).alloc (Nat.le_refl _) _
                  have HD7 : Hid (y7.cell? ⟨w6.heap.size, 0, none⟩ = some (.float .f64 m1) ∧ y7.cell? ⟨w6.heap.size, 1, none⟩ = some (.float .f64 E) ∧ y7.cell? ⟨w6.heap.size, 2, none⟩ = some (.float .f64 F)) := by
                    rw [hy7]
                    exact ⟨by rw [World.cell?_alloc_at _ _ _ _ rfl]; rfl, by rw [World.cell?_alloc_at _ _ _ _ rfl]; rfl, by rw [World.cell?_alloc_at _ _ _ _ rfl]; rfl⟩
                  have HFY7 := hide (HFY6.out.keep hb7)
                  have HB7 := hide (HB6.out.trans (hb7.mono HB6.out.size))
                  have HC7 : Hid (y7.cell? ⟨X.heap.size, 0, none⟩ = some (.float .f64 m) ∧ y7.cell? ⟨X.heap.size, 1, none⟩ = some (.float .f64 C) ∧ y7.cell? ⟨X.heap.size, 2, none⟩ = some (.float .f64 D)) := ⟨keepsB hb7 _ _ HC6.out.1, keepsB hb7 _ _ HC6.out.2.1, keepsB hb7 _ _ HC6.out.2.2⟩
                  clear hb7 HFY6 HB6 HC6
                  go_wp2_with fail
                  rw [← hy7]
                  clear hy7
                  refine (spread_a _ _ _ hs HHL.out (by omega) hn1 _ HFY7.out).mono ?_
                  rintro e w8 ⟨⟨m2, rfl, hm2⟩, hb8⟩
                  have HS := hide (any_law HN.out hn1 HPM.out (by rw [← HQ.out.1]; exact HA.out) (by rw [← HQ.out.2.1]; exact HB.out) HC.out (by rw [← HQ.out.2.2]; exact HD.out) HM.out HM1.out hm2)
                  obtain ⟨G, hG⟩ : ∃ G, G = fig (sortedOf hs) 0 := ⟨_, rfl⟩
                  obtain ⟨Z, hZ⟩ : ∃ Z, Z = fig (sortedOf hs) (n - 1) := ⟨_, rfl⟩
                  rw [← hG, ← hZ, ← HE.out, ← HFF.out] at HS
                  rw [← hG, ← hZ]
                  have c0 := keepsB hb8 _ _ HC7.out.1
                  have c1 := keepsB hb8 _ _ HC7.out.2.1
                  have c2 := keepsB hb8 _ _ HC7.out.2.2
                  have d0 := keepsB hb8 _ _ HD7.out.1
                  have d1 := keepsB hb8 _ _ HD7.out.2.1
                  have d2 := keepsB hb8 _ _ HD7.out.2.2
                  have HB8 := hide (HB7.out.trans (hb8.mono HB7.out.size))
                  have hne : w6.heap.size < w8.heap.size := cell_lt d0
                  have hne2 : X.heap.size < w8.heap.size := cell_lt c0
                  clear hG hZ hm2 hb8 HM HM1 HA HB HC HD HQ HPM HE HFF HC7 HD7 HFY7 HB7
                  obtain ⟨y8, hy8⟩ : ∃ y8, y8 = w8.alloc (.cells #[.float .f64 m2, .float .f64 G, .float .f64 Z] 27) := ⟨_, rfl⟩
                  have hb9 : Below w8.heap.size w8 y8 := by rw [hy8]; exact (Below.refl _ _).alloc (Nat.le_refl _) _
                  have HD8 : Hid (y8.cell? ⟨w8.heap.size, 0, none⟩ = some (.float .f64 m2) ∧ y8.cell? ⟨w8.heap.size, 1, none⟩ = some (.float .f64 G) ∧ y8.cell? ⟨w8.heap.size, 2, none⟩ = some (.float .f64 Z)) := by
                    rw [hy8]
                    exact ⟨by rw [World.cell?_alloc_at _ _ _ _ rfl]; rfl, by rw [World.cell?_alloc_at _ _ _ _ rfl]; rfl, by rw [World.cell?_alloc_at _ _ _ _ rfl]; rfl⟩
                  have HC8 : Hid (y8.cell? ⟨w6.heap.size, 0, none⟩ = some (.float .f64 m1) ∧ y8.cell? ⟨w6.heap.size, 1, none⟩ = some (.float .f64 E) ∧ y8.cell? ⟨w6.heap.size, 2, none⟩ = some (.float .f64 F)) := ⟨keepsB hb9 _ _ d0, keepsB hb9 _ _ d1, keepsB hb9 _ _ d2⟩
                  have HB9 := hide (HB8.out.trans (hb9.mono HB8.out.size))
                  clear hb9
                  go_wp2_with fail
                  rw [← hy8]
                  clear hy8 c0 c1 c2 d0 d1 d2 hne hne2
                  refine (zzSameSpread_any _ _ _ _ _ _ HS.out.1.1 HS.out.1.2.1 HS.out.1.2.2 _).mono ?_
                  rintro e w9 ⟨rfl, hb⟩
                  have HBA := hide (HB9.out.trans (hb.mono HB9.out.size))
                  have c0 := keepsB hb _ _ HC8.out.1
                  have c1 := keepsB hb _ _ HC8.out.2.1
                  have c2 := keepsB hb _ _ HC8.out.2.2
                  have d0 := keepsB hb _ _ HD8.out.1
                  have d1 := keepsB hb _ _ HD8.out.2.1
                  have d2 := keepsB hb _ _ HD8.out.2.2
                  clear hb HC8 HD8 HB9
                  go_wp2_with fail
                  refine (zzSameSpread_any _ _ _ _ _ _ HS.out.2.1 HS.out.2.2.1 HS.out.2.2.2 _).mono ?_
                  rintro e w10 ⟨rfl, hb⟩
                  have HBB := hide (HBA.out.trans (hb.mono HBA.out.size))
                  clear hb
                  go_wp2_with fail
                  go_ret
                  exact ⟨rfl, HBB.out⟩
        · go_wp2_with (first
            | (at_make; refine wpList_make_full _ rfl _ _ 22 rfl w.heap.size 24 i0 (.float .f64 0) 1 Try.underlying22 hi0 hz0 hz1 .i64 .i64 _ _ n rfl rfl rfl rfl (by rw [hz2]; omega) (by unfold maxLen; omega) (Nat.le_refl _) ?_; intro w1 hown hgrow; have hB1 : Below w.heap.size w w1 := (Below.refl _ _).grown hgrow (Nat.le_refl _) (fun k hk => by cases hk); obtain ⟨cur, hcur, hcl⟩ := own_block hown; have HCUR := hide hcur; have HCL := hide hcl; have HB1 := hide hB1; clear hown hgrow hcur hcl hB1)
            | (with_reducible refine at_copy (.tmp 27) (.tmp 28) 22 22 rfl ?_; refine wpList_copy_splice rfl (.tmp 27) (.tmp 28) 22 22 rfl 24 Try.underlying22 Try.size24 (some ⟨w.heap.size, 0, none⟩) (some x) n n n cap rfl rfl w.heap.size 0 cur 24 HCUR.out (zs.map encF) (by rw [List.length_map, ← HN.out]; exact (Nat.min_self n).symm) (fun _ => ⟨rfl, x, rfl, fun j v hv => keepsB HB1.out _ _ (HSRC.out j v hv)⟩) (by rw [List.length_map, HCL.out, ← HN.out]; omega) (all_float zs) w.heap.size w HB1.out (Nat.le_refl _) ?_; intro w2 HG2 hB2; have HB2 := hide hB2; clear hB2 HG2))
          all_goals
            go_ret
            exact ⟨rfl, HB2.out⟩
  · go_wp2
    go_ret
    exact ⟨rfl, Below.refl _ _⟩
end Go.Proofs.Qxb6619252a
