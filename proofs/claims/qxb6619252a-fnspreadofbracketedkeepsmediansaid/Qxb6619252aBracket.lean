import Derived.Test.Qxb6619252aLaw0
namespace Go.Proofs.Qxb6619252a
open Go.RowKit
attribute [local go_sem] run_store_float

theorem spread_n (p : Option Addr) (cap n : Nat) (zs : List Nat) (hn : n = zs.length) (hlen : n ≤ 2097152) (h1 : 1 ≤ n) (w : World) (h : IsFigs w p zs) :
    Calls Try.prog 8 #[.slice p n cap] w fun e w' => RetSpread e (sortedOf zs) n ∧ Below w.heap.size w w' := by
  subst hn
  exact spreadOf_any p cap zs hlen (fun e => by subst e; simp at h1) w h.figs

/-- hs is zs (n figures) with x put in at place j. -/
def Target (hs zs : List Nat) (j x n : Nat) : Prop :=
  (∀ k, k < n + 1 → k < hs.length) ∧ (∀ k, k < j → fig hs k = fig zs k) ∧ fig hs j = x ∧ (∀ k, j ≤ k → k < n → fig hs (k + 1) = fig zs k) ∧ n + 1 = hs.length

theorem target_of {hs zs : List Nat} {j x n : Nat} (hh : hs = putIn zs j x) (hn : n = zs.length) (hj : j ≤ n) : Target hs zs j x n := by
  subst hh hn
  have hl := putIn_length (x := x) hj
  exact ⟨fun k hk => by omega, fun k hk => putIn_lo hk hj, putIn_at hj, fun k hk _ => putIn_hi hk hj, hl.symm⟩

theorem bracket_law {zs hs : List Nat} {lo hi j1 j2 n m m' : Nat} (hn : n = zs.length) (hn1 : 1 ≤ n) (hL : ∀ j, j < n → leF lo (fig zs j) = true ∧ leF (fig zs j) hi = true)
    (hh : hs = putIn (putIn zs j1 lo) j2 hi) (hm : MedOf (fig (sortedOf zs) ((n - 1) / 2)) (fig (sortedOf zs) (n / 2)) m)
    (hm' : MedOf (fig (sortedOf hs) ((n + 2 - 1) / 2)) (fig (sortedOf hs) ((n + 2) / 2)) m') :
    sameF (fig (sortedOf hs) 0) lo = true ∧ sameF (fig (sortedOf hs) (n + 2 - 1)) hi = true ∧ sameF m' m = true := by
  have hmem : ∀ x ∈ zs, leF lo x = true ∧ leF x hi = true := fun x hx => by
    obtain ⟨j, hj, e⟩ := List.getElem_of_mem hx
    have := hL j (by omega)
    have e' : fig zs j = x := by unfold fig; simp [List.getD, hj, e]
    rw [e'] at this
    exact this
  have h3 : ltF hi lo = false := by
    have := hL 0 (by omega)
    rw [leF_iff, leF_iff] at this
    rw [ltF_false]
    exact .inr ⟨this.2.2.1, this.1.1, by omega⟩
  have hp : hs.Perm (lo :: (zs ++ [hi])) := by
    subst hh
    refine (putIn_perm _ _ _).trans ?_
    refine ((putIn_perm zs j1 lo).cons hi).trans ?_
    refine (List.Perm.swap lo hi zs).trans ?_
    refine List.Perm.cons lo ?_
    exact (List.perm_append_comm (l₁ := [hi]) (l₂ := zs))
  obtain ⟨r1, r2, r3⟩ := sorted_bracket (fun x hx => ltF_of_le (hmem x hx).1) (fun x hx => ltF_of_le (hmem x hx).2) h3 hp
  refine ⟨(sameF_iff _ _).2 r1.symm, (sameF_iff _ _).2 ?_, (sameF_iff _ _).2 ?_⟩
  · rw [show n + 2 - 1 = zs.length + 1 by omega]; exact r2.symm
  · have e1 := r3 ((n - 1) / 2) (by omega)
    have e2 := r3 (n / 2) (by omega)
    rw [show (n - 1) / 2 + 1 = (n + 2 - 1) / 2 by omega] at e1
    rw [show n / 2 + 1 = (n + 2) / 2 by omega] at e2
    exact (MedOf.rel e1 e2 hm hm').symm

set_option maxHeartbeats 4000000 in
set_option maxRecDepth 100000 in
theorem bracket_walk (p : Option Addr) (cap : Nat) (zs : List Nat) (lo hi : Nat) (at1 at2 : Int) (w : World) (h : IsFigs w p zs) (hp : p = none → zs = []) :
    Calls Try.prog 4 #[.slice p zs.length cap, .float .f64 lo, .float .f64 hi, .int .i64 at1, .int .i64 at2] w fun e w' => e = .returned (.bool true) ∧ Below w.heap.size w w' := by
  obtain ⟨i0, hi0, hz0, hz1, hz2⟩ := info_parts Try.info24
  have H := hide h
  clear h
  obtain ⟨n, hn⟩ : ∃ n, n = zs.length := ⟨_, rfl⟩
  rw [← hn]
  have HN := hide hn
  have HP := hide hp
  clear hn hp
  go_enter Try.func4, Try.ntmps4
  go_wp2_with fail
  refine (zzBytes4_any _ _ _ _ _ _ _ _ rfl _).mono ?_
  rintro e w' ⟨⟨b, rfl⟩, hw⟩
  obtain rfl := hw.symm
  clear hw
  cases b
  · go_wp2
    go_ret
    exact ⟨rfl, Below.refl _ _⟩
  by_cases hbig : n ≤ 65536
  · cases p with
    | none =>
      obtain rfl : 0 = n := by rw [HN.out, HP.out rfl]; rfl
      go_wp2
      go_ret
      exact ⟨rfl, Below.refl _ _⟩
    | some x =>
      have HSRC := hide (figs_src H.out)
      by_cases h0 : n = 0
      · obtain rfl : 0 = n := by omega
        go_wp2_with (first
          | (at_make; refine wpList_make_full _ rfl _ _ 22 rfl w.heap.size 24 i0 (.float .f64 0) 1 Try.underlying22 hi0 hz0 hz1 .i64 .i64 _ _ 0 rfl rfl rfl rfl (by rw [hz2]; omega) (by unfold maxLen; omega) (Nat.le_refl _) ?_; intro w1 hown hgrow; have hB1 : Below w.heap.size w w1 := (Below.refl _ _).grown hgrow (Nat.le_refl _) (fun k hk => by cases hk); obtain ⟨cur, hcur, hcl⟩ := own_block hown; have HCUR := hide hcur; have HCL := hide hcl; have HB1 := hide hB1; clear hown hgrow hcur hcl hB1)
          | (with_reducible refine at_copy (.tmp 37) (.tmp 38) 22 22 rfl ?_; refine wpList_copy_splice rfl (.tmp 37) (.tmp 38) 22 22 rfl 24 Try.underlying22 Try.size24 (some ⟨w.heap.size, 0, none⟩) (some x) 0 0 0 cap rfl rfl w.heap.size 0 cur 24 HCUR.out (zs.map encF) (by rw [List.length_map, ← HN.out]; exact (Nat.min_self 0).symm) (fun _ => ⟨rfl, x, rfl, fun j v hv => keepsB HB1.out _ _ (HSRC.out j v hv)⟩) (by rw [List.length_map, HCL.out, ← HN.out]; omega) (all_float zs) w.heap.size w HB1.out (Nat.le_refl _) ?_; intro w2 HG2 hB2; have HB2 := hide hB2; clear hB2 HG2))
        go_ret
        exact ⟨rfl, HB2.out⟩
      · -- figures
        have hn1 : 1 ≤ n := by omega
        by_cases hin : (0 ≤ at1 ∧ at1 ≤ n) ∧ (0 ≤ at2 ∧ at2 ≤ n + 1)
        · obtain ⟨⟨ha0, ha1⟩, hb0, hb1⟩ := hin
          obtain ⟨j1, rfl⟩ : ∃ j : Nat, at1 = (j : Int) := ⟨at1.toNat, by omega⟩
          obtain ⟨j2, rfl⟩ : ∃ j : Nat, at2 = (j : Int) := ⟨at2.toNat, by omega⟩
          go_wp2_with (first
            | (at_make; refine wpList_make_full _ rfl _ _ 22 rfl w.heap.size 24 i0 (.float .f64 0) 1 Try.underlying22 hi0 hz0 hz1 .i64 .i64 _ _ n rfl rfl rfl rfl (by rw [hz2]; omega) (by unfold maxLen; omega) (Nat.le_refl _) ?_; intro w1 hown hgrow; have hB1 : Below w.heap.size w w1 := (Below.refl _ _).grown hgrow (Nat.le_refl _) (fun k hk => by cases hk); obtain ⟨cur, hcur, hcl⟩ := own_block hown; have HCUR := hide hcur; have HCL := hide hcl; have HB1 := hide hB1; clear hown hgrow hcur hcl hB1)
            | (with_reducible refine at_copy (.tmp 37) (.tmp 38) 22 22 rfl ?_; refine wpList_copy_splice rfl (.tmp 37) (.tmp 38) 22 22 rfl 24 Try.underlying22 Try.size24 (some ⟨w.heap.size, 0, none⟩) (some x) n n n cap rfl rfl w.heap.size 0 cur 24 HCUR.out (zs.map encF) (by rw [List.length_map, ← HN.out]; exact (Nat.min_self n).symm) (fun _ => ⟨rfl, x, rfl, fun j v hv => keepsB HB1.out _ _ (HSRC.out j v hv)⟩) (by rw [List.length_map, HCL.out, ← HN.out]; omega) (all_float zs) w.heap.size w HB1.out (Nat.le_refl _) ?_; intro w2 HG2 hB2; have HOWN := hide (copied HG2.out (HCL.out.trans HN.out) (Nat.le_refl _) (by rw [← HN.out]; unfold maxLen; omega)); have HB2 := hide hB2; clear hB2 HG2))
          have HF := hide (own_figs HOWN.out)
          clear HSRC HCUR HCL HB1 H HOWN
          obtain ⟨hs1, hhs1⟩ : ∃ hs1, hs1 = putIn zs j1 lo := ⟨_, rfl⟩
          obtain ⟨hs2, hhs2⟩ : ∃ hs2, hs2 = putIn hs1 j2 hi := ⟨_, rfl⟩
          have HT1 := hide (target_of hhs1 HN.out (by omega))
          have HT2 := hide (target_of hhs2 HT1.out.2.2.2.2 (by omega))
          have HH := hide (hhs2.trans (by rw [hhs1]))
          clear hhs1 hhs2
          go_loopw [13] (fun x wr => ∃ (k : Nat), k ≤ n ∧ x = .int .i64 k ∧ wr = w2 ∧ Hid (∀ j, j < k → leF lo (fig zs j) = true ∧ leF (fig zs j) hi = true)) (fun x _ => n - (intOf x).toNat)
          case atStart => exact ⟨0, Nat.zero_le _, rfl, rfl, fun j hj => absurd hj (Nat.not_lt_zero j)⟩
          case round =>
            obtain ⟨k, hk, rfl, hwr, HL⟩ := hrel
            obtain rfl := hwr.symm
            clear hwr
            by_cases hlt : k < n
            · have e1 : w2.cell? ⟨w.heap.size, k, none⟩ = some (.float .f64 (fig zs k)) := by
                rcases HF.out with h | ⟨b, o, e, h⟩
                · exact absurd (by rw [HN.out, h]; rfl) h0
                · cases e
                  have := h k (by rw [← HN.out]; exact hlt)
                  rw [Nat.zero_add] at this
                  exact this
              go_wp2_with fail
              · go_ret
                exact ⟨rfl, HB2.out⟩
              case roundEnd =>
                rename_i g1 g2
                refine ⟨⟨k + 1, by omega, by go_num, trivial, fun j hj => ?_⟩, by simp [intOf]; omega⟩
                rcases Nat.lt_or_ge j k with hlt' | hge
                · exact HL.out j hlt'
                · obtain rfl : j = k := by omega
                  exact ⟨le_of_walk g1, le_of_walk' g2.2⟩
              · go_ret
                exact ⟨rfl, HB2.out⟩
            · obtain rfl : n = k := by omega
              clear hlt hk
              go_wp2_with (at_make; refine wpList_make_own _ rfl _ _ 22 rfl w2.heap.size 24 i0 (.float .f64 0) 1 Try.underlying22 hi0 hz0 hz1 .i64 .i64 _ (n + 1) rfl rfl (by omega) (by rw [hz2]; omega) (by unfold maxLen; omega) (Nat.le_refl _) ?_; intro w4 hown hgrow)
              have hB0 : Below w2.heap.size w2 w4 := (Below.refl _ _).grown hgrow (Nat.le_refl _) (fun k hk => by cases hk)
              clear hgrow
              go_loopw [14, 15] (fun v x wr => ∃ (k : Nat), k ≤ j1 ∧ x = .int .i64 k ∧ v = .slice (some ⟨w2.heap.size, 0, none⟩) k (n + 1) ∧ wr.ownsRow w2.heap.size 24 1 (.slice (some ⟨w2.heap.size, 0, none⟩) k (n + 1)) k (cellsTo hs1 k) ∧ Below w2.heap.size w2 wr) (fun _ x _ => j1 - (intOf x).toNat)
              case atStart => exact ⟨0, Nat.zero_le _, rfl, rfl, hown, hB0⟩
              case round =>
                clear hown hB0
                obtain ⟨k, hk, rfl, rfl, hown, hB⟩ := hrel
                by_cases hlt : k < j1
                · have e1 : wr.cell? _ = _ := keepsB hB _ _ (HF.out.at HN.out (k := k) (by omega))
                  have HW := hide hB
                  have hle : w2.heap.size ≤ wr.heap.size := hB.size
                  clear hB
                  go_wp2_with (at_builtin; refine wpList_append_fits _ rfl (.tmp 88) (.tmp 93) 22 rfl w2.heap.size 24 i0 1 Try.underlying22 hi0 hz1 w2.heap.size k (n + 1) (cellsTo hs1 k) rfl (hown.alloc _) ⟨wr.heap.size, 0, none⟩ 1 1 [.float .f64 (fig zs k)] rfl rfl (cell_one_new _ _ _) (one_float _) (by omega) ?_; intro w5 hown2 hg2)
                  have hB2 : Below w2.heap.size w2 w5 := app_below HW.out hg2 (Nat.le_refl _)
                  rw [cellsTo_snoc (HT1.out.1 k (by omega)) (HT1.out.2.1 k (by omega))] at hown2
                  clear hg2 hown
                  go_roundw
                  case rel => exact ⟨k + 1, by omega, by go_num, rfl, hown2, hB2⟩
                  case measure => simp [intOf]; omega
                · obtain rfl : k = j1 := by omega
                  have HW := hide hB
                  have hle : w2.heap.size ≤ wr.heap.size := hB.size
                  clear hB
                  go_wp2_with (at_builtin; refine wpList_append_fits _ rfl (.tmp 95) (.tmp 97) 22 rfl w2.heap.size 24 i0 1 Try.underlying22 hi0 hz1 w2.heap.size k (n + 1) (cellsTo hs1 k) rfl (hown.alloc _) ⟨wr.heap.size, 0, none⟩ 1 1 [.float .f64 lo] rfl rfl (cell_one_new _ _ _) (one_float _) (by omega) ?_; intro w5 hown2 hg2)
                  have hB2 : Below w2.heap.size w2 w5 := app_below HW.out hg2 (Nat.le_refl _)
                  rw [cellsTo_snoc (HT1.out.1 k (by omega)) HT1.out.2.2.1] at hown2
                  clear hg2 hown HW
                  go_loopw [14, 16] (fun v x wr => ∃ (k' : Nat), k ≤ k' ∧ k' ≤ n ∧ x = .int .i64 k' ∧ v = .slice (some ⟨w2.heap.size, 0, none⟩) (k' + 1) (n + 1) ∧ wr.ownsRow w2.heap.size 24 1 (.slice (some ⟨w2.heap.size, 0, none⟩) (k' + 1) (n + 1)) (k' + 1) (cellsTo hs1 (k' + 1)) ∧ Below w2.heap.size w2 wr) (fun _ x _ => n - (intOf x).toNat)
                  case atStart => exact ⟨k, Nat.le_refl _, by omega, rfl, rfl, hown2, hB2⟩
                  case round =>
                    clear hown2 hB2 hle
                    obtain ⟨q, hkq, hqn, rfl, rfl, hown, hB⟩ := hrel
                    by_cases hlt2 : q < n
                    · have e1 : wr.cell? _ = _ := keepsB hB _ _ (HF.out.at HN.out (k := q) (by omega))
                      have HW := hide hB
                      have hle : w2.heap.size ≤ wr.heap.size := hB.size
                      clear hB
                      go_wp2_with (at_builtin; refine wpList_append_fits _ rfl (.tmp 105) (.tmp 110) 22 rfl w2.heap.size 24 i0 1 Try.underlying22 hi0 hz1 w2.heap.size (q + 1) (n + 1) (cellsTo hs1 (q + 1)) rfl (hown.alloc _) ⟨wr.heap.size, 0, none⟩ 1 1 [.float .f64 (fig zs q)] rfl rfl (cell_one_new _ _ _) (one_float _) (by omega) ?_; intro w5 hown2 hg2)
                      have hB2 : Below w2.heap.size w2 w5 := app_below HW.out hg2 (Nat.le_refl _)
                      rw [cellsTo_snoc (HT1.out.1 (q + 1) (by omega)) (HT1.out.2.2.2.1 q (by omega) (by omega))] at hown2
                      clear hg2 hown
                      go_roundw
                      case rel => exact ⟨q + 1, by omega, by omega, by go_num, rfl, hown2, hB2⟩
                      case measure => simp [intOf]; omega
                    · obtain rfl : n = q := by omega
                      clear hkq hqn hlt2
                      have HF1 := hide (HF.out.keep hB)
                      have HG1 := hide (cellsTo_figs HT1.out.2.2.2.2 hown)
                      have HBV := hide (HB2.out.trans (hB.mono HB2.out.size))
                      obtain ⟨W1, hW1⟩ : ∃ W1, W1 = wr := ⟨_, rfl⟩
                      obtain ⟨g0, hg0⟩ : ∃ g0, g0 = w2.heap.size := ⟨_, rfl⟩
                      rw [← hW1, ← hg0] at HG1
                      rw [← hW1] at HF1 HBV
                      rw [← hW1, ← hg0]
                      clear hW1 hg0 hown hB HF HB2
                      go_wp2_with (at_make; refine wpList_make_own _ rfl _ _ 22 rfl W1.heap.size 24 i0 (.float .f64 0) 1 Try.underlying22 hi0 hz0 hz1 .i64 .i64 _ (n + 2) rfl rfl (by omega) (by rw [hz2]; omega) (by unfold maxLen; omega) (Nat.le_refl _) ?_; intro w4 hown hgrow)
                      have hB0 : Below W1.heap.size W1 w4 := (Below.refl _ _).grown hgrow (Nat.le_refl _) (fun k hk => by cases hk)
                      clear hgrow
                      go_loopw [17, 18] (fun v x wr => ∃ (k : Nat), k ≤ j2 ∧ x = .int .i64 k ∧ v = .slice (some ⟨W1.heap.size, 0, none⟩) k (n + 2) ∧ wr.ownsRow W1.heap.size 24 1 (.slice (some ⟨W1.heap.size, 0, none⟩) k (n + 2)) k (cellsTo hs2 k) ∧ Below W1.heap.size W1 wr) (fun _ x _ => j2 - (intOf x).toNat)
                      case atStart => exact ⟨0, Nat.zero_le _, rfl, rfl, hown, hB0⟩
                      case round =>
                        clear hown hB0
                        obtain ⟨k, hk, rfl, rfl, hown, hB⟩ := hrel
                        by_cases hlt : k < j2
                        · have e1 : wr.cell? _ = _ := keepsB hB _ _ (HG1.out.at HT1.out.2.2.2.2 (k := k) (by omega))
                          have HW := hide hB
                          have hle : W1.heap.size ≤ wr.heap.size := hB.size
                          clear hB
                          go_wp2_with (at_builtin; refine wpList_append_fits _ rfl (.tmp 120) (.tmp 125) 22 rfl W1.heap.size 24 i0 1 Try.underlying22 hi0 hz1 W1.heap.size k (n + 2) (cellsTo hs2 k) rfl (hown.alloc _) ⟨wr.heap.size, 0, none⟩ 1 1 [.float .f64 (fig hs1 k)] rfl rfl (cell_one_new _ _ _) (one_float _) (by omega) ?_; intro w5 hown2 hg2)
                          have hB2 : Below W1.heap.size W1 w5 := app_below HW.out hg2 (Nat.le_refl _)
                          rw [cellsTo_snoc (HT2.out.1 k (by omega)) (HT2.out.2.1 k (by omega))] at hown2
                          clear hg2 hown
                          go_roundw
                          case rel => exact ⟨k + 1, by omega, by go_num, rfl, hown2, hB2⟩
                          case measure => simp [intOf]; omega
                        · obtain rfl : k = j2 := by omega
                          have HW := hide hB
                          have hle : W1.heap.size ≤ wr.heap.size := hB.size
                          clear hB
                          go_wp2_with (at_builtin; refine wpList_append_fits _ rfl (.tmp 127) (.tmp 129) 22 rfl W1.heap.size 24 i0 1 Try.underlying22 hi0 hz1 W1.heap.size k (n + 2) (cellsTo hs2 k) rfl (hown.alloc _) ⟨wr.heap.size, 0, none⟩ 1 1 [.float .f64 hi] rfl rfl (cell_one_new _ _ _) (one_float _) (by omega) ?_; intro w5 hown2 hg2)
                          have hB2 : Below W1.heap.size W1 w5 := app_below HW.out hg2 (Nat.le_refl _)
                          rw [cellsTo_snoc (HT2.out.1 k (by omega)) HT2.out.2.2.1] at hown2
                          clear hg2 hown HW
                          go_loopw [17, 19] (fun v x wr => ∃ (k' : Nat), k ≤ k' ∧ k' ≤ (n + 1) ∧ x = .int .i64 k' ∧ v = .slice (some ⟨W1.heap.size, 0, none⟩) (k' + 1) (n + 2) ∧ wr.ownsRow W1.heap.size 24 1 (.slice (some ⟨W1.heap.size, 0, none⟩) (k' + 1) (n + 2)) (k' + 1) (cellsTo hs2 (k' + 1)) ∧ Below W1.heap.size W1 wr) (fun _ x _ => (n + 1) - (intOf x).toNat)
                          case atStart => exact ⟨k, Nat.le_refl _, by omega, rfl, rfl, hown2, hB2⟩
                          case round =>
                            clear hown2 hB2 hle
                            obtain ⟨q, hkq, hqn, rfl, rfl, hown, hB⟩ := hrel
                            by_cases hlt2 : q < (n + 1)
                            · have e1 : wr.cell? _ = _ := keepsB hB _ _ (HG1.out.at HT1.out.2.2.2.2 (k := q) (by omega))
                              have HW := hide hB
                              have hle : W1.heap.size ≤ wr.heap.size := hB.size
                              clear hB
                              go_wp2_with (at_builtin; refine wpList_append_fits _ rfl (.tmp 138) (.tmp 143) 22 rfl W1.heap.size 24 i0 1 Try.underlying22 hi0 hz1 W1.heap.size (q + 1) (n + 2) (cellsTo hs2 (q + 1)) rfl (hown.alloc _) ⟨wr.heap.size, 0, none⟩ 1 1 [.float .f64 (fig hs1 q)] rfl rfl (cell_one_new _ _ _) (one_float _) (by omega) ?_; intro w5 hown2 hg2)
                              have hB2 : Below W1.heap.size W1 w5 := app_below HW.out hg2 (Nat.le_refl _)
                              rw [cellsTo_snoc (HT2.out.1 (q + 1) (by omega)) (HT2.out.2.2.2.1 q (by omega) (by omega))] at hown2
                              clear hg2 hown
                              go_roundw
                              case rel => exact ⟨q + 1, by omega, by omega, by go_num, rfl, hown2, hB2⟩
                              case measure => simp [intOf]; omega
                            · obtain rfl : (n + 1) = q := by omega
                              clear hkq hqn hlt2
                              have HF0 := hide (HF1.out.keep hB)
                              have HF2 := hide (cellsTo_figs HT2.out.2.2.2.2 hown)
                              have HBW := hide (HBV.out.trans (hB.mono HBV.out.size))
                              obtain ⟨g1, hg1⟩ : ∃ g1, g1 = W1.heap.size := ⟨_, rfl⟩
                              rw [← hg1] at HF2 ⊢
                              have HTL := hide HT2.out.2.2.2.2
                              clear hg1 hown hB HF1 HT1 HT2 HG1 HBV
                              go_wp2_with fail
                              refine (spread_n _ _ _ zs HN.out (by omega) hn1 _ HF0.out).mono ?_
                              rintro e w6 ⟨⟨m, rfl, hm⟩, hb6⟩
                              have HM := hide hm
                              have HB6 := hide hb6
                              have HF3 := hide (HF2.out.keep hb6)
                              clear hm hb6 HF2 HF0
                              obtain ⟨A, hA⟩ : ∃ A, A = fig (sortedOf zs) 0 := ⟨_, rfl⟩
                              obtain ⟨B, hB⟩ : ∃ B, B = fig (sortedOf zs) (n - 1) := ⟨_, rfl⟩
                              rw [← hA, ← hB]
                              clear hA hB
                              obtain ⟨w7, hw7⟩ : ∃ w7, w7 = w6.alloc (.cells #[.float .f64 m, .float .f64 A, .float .f64 B] 27) := ⟨_, rfl⟩
                              have hb7 : Below w6.heap.size w6 w7 := by rw [hw7]; exact (Below.refl _ _).alloc (Nat.le_refl _) _
                              have c7 : w7.cell? ⟨w6.heap.size, 0, none⟩ = some (.float .f64 m) := by rw [hw7, World.cell?_alloc_at _ _ _ _ rfl]; rfl
                              have HF7 := hide (HF3.out.keep hb7)
                              have HB7 := hide (HB6.out.trans (hb7.mono HB6.out.size))
                              have HC7 := hide c7
                              clear hb7 c7 HF3 HB6
                              go_wp2_with fail
                              rw [← hw7]
                              clear hw7
                              refine (spread_n _ _ _ hs2 HTL.out (by omega) (by omega) _ HF7.out).mono ?_
                              rintro e w8 ⟨⟨m2, rfl, hm⟩, hb8⟩
                              have HS := hide (bracket_law HN.out hn1 HL.out HH.out HM.out hm)
                              obtain ⟨C, hC⟩ : ∃ C, C = fig (sortedOf hs2) 0 := ⟨_, rfl⟩
                              obtain ⟨D, hD⟩ : ∃ D, D = fig (sortedOf hs2) (n + 1 + 1 - 1) := ⟨_, rfl⟩
                              rw [show n + 2 - 1 = n + 1 + 1 - 1 from rfl, ← hC, ← hD] at HS
                              rw [← hC, ← hD]
                              clear hC hD hm HM HL HH HF7
                              have c8 := keepsB hb8 _ _ HC7.out
                              have HB8 := hide (HBW.out.trans ((HB7.out.trans (hb8.mono HB7.out.size)).mono HBW.out.size))
                              have hne : w6.heap.size < w8.heap.size := cell_lt c8
                              clear HB7 hb8 HC7 HBW
                              go_wp2_with fail
                              refine (zzSame_any _ _ _).mono ?_
                              rintro e w9 ⟨rfl, hw9⟩
                              obtain rfl := hw9.symm
                              clear hw9
                              rw [HS.out.1]
                              go_wp2_with fail
                              refine (zzSame_any _ _ _).mono ?_
                              rintro e w9 ⟨rfl, hw9⟩
                              obtain rfl := hw9.symm
                              clear hw9
                              rw [HS.out.2.1]
                              go_wp2_with fail
                              refine (zzSame_any _ _ _).mono ?_
                              rintro e w9 ⟨rfl, hw9⟩
                              obtain rfl := hw9.symm
                              clear hw9
                              rw [HS.out.2.2]
                              go_wp2_with fail
                              go_ret
                              exact ⟨rfl, HB8.out.alloc HB8.out.size _⟩
        · go_wp2_with (first
            | (at_make; refine wpList_make_full _ rfl _ _ 22 rfl w.heap.size 24 i0 (.float .f64 0) 1 Try.underlying22 hi0 hz0 hz1 .i64 .i64 _ _ n rfl rfl rfl rfl (by rw [hz2]; omega) (by unfold maxLen; omega) (Nat.le_refl _) ?_; intro w1 hown hgrow; have hB1 : Below w.heap.size w w1 := (Below.refl _ _).grown hgrow (Nat.le_refl _) (fun k hk => by cases hk); obtain ⟨cur, hcur, hcl⟩ := own_block hown; have HCUR := hide hcur; have HCL := hide hcl; have HB1 := hide hB1; clear hown hgrow hcur hcl hB1)
            | (with_reducible refine at_copy (.tmp 37) (.tmp 38) 22 22 rfl ?_; refine wpList_copy_splice rfl (.tmp 37) (.tmp 38) 22 22 rfl 24 Try.underlying22 Try.size24 (some ⟨w.heap.size, 0, none⟩) (some x) n n n cap rfl rfl w.heap.size 0 cur 24 HCUR.out (zs.map encF) (by rw [List.length_map, ← HN.out]; exact (Nat.min_self n).symm) (fun _ => ⟨rfl, x, rfl, fun j v hv => keepsB HB1.out _ _ (HSRC.out j v hv)⟩) (by rw [List.length_map, HCL.out, ← HN.out]; omega) (all_float zs) w.heap.size w HB1.out (Nat.le_refl _) ?_; intro w2 HG2 hB2; have HOWN := hide (copied HG2.out (HCL.out.trans HN.out) (Nat.le_refl _) (by rw [← HN.out]; unfold maxLen; omega)); have HB2 := hide hB2; clear hB2 HG2))
          all_goals
            go_ret
            exact ⟨rfl, HB2.out⟩
  · go_wp2
    go_ret
    exact ⟨rfl, Below.refl _ _⟩
end Go.Proofs.Qxb6619252a
