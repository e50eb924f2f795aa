import Derived.Test.Qxb6619252aLaw0
namespace Go.Proofs.Qxb6619252a
open Go.RowKit
attribute [local go_sem] run_store_float

set_option maxHeartbeats 400000 in
theorem zzLess_any (x y : Nat) (w : World) : Calls Try.prog 13 #[.float .f64 x, .float .f64 y] w fun e w' => e = .returned (.bool (ltF x y)) ∧ w' = w := by
  have hs : ltF x y = (((FloatKind.f64.format.order x x != some .eq) && !(FloatKind.f64.format.order y y != some .eq)) || FloatKind.f64.format.order x y == some .lt) := rfl
  rw [hs]
  clear hs
  by_cases h1 : FloatKind.f64.format.order x x = some .eq <;> by_cases h2 : FloatKind.f64.format.order y y = some .eq
  all_goals
    go_enter Try.func13, Try.ntmps13
    go_wp2
    go_ret
    exact ⟨by simp [bne, h1, h2], rfl⟩

/-- How many of the first j are less than z; and not greater. -/
def cntL (zs : List Nat) (z j : Nat) : Nat := (zs.take j).countP fun y => ltF y z
def cntG (zs : List Nat) (z j : Nat) : Nat := (zs.take j).countP fun y => !ltF z y

theorem cntL_zero (zs : List Nat) (z : Nat) : cntL zs z 0 = 0 := by simp [cntL]
theorem cntG_zero (zs : List Nat) (z : Nat) : cntG zs z 0 = 0 := by simp [cntG]
theorem cntL_le (zs : List Nat) (z j : Nat) : cntL zs z j ≤ j := Nat.le_trans List.countP_le_length (by simp; omega)
theorem cntG_le (zs : List Nat) (z j : Nat) : cntG zs z j ≤ j := Nat.le_trans List.countP_le_length (by simp; omega)
theorem cntL_succ {zs : List Nat} {z j : Nat} (h : j < zs.length) {b : Bool} (hb : ltF (fig zs j) z = b) : cntL zs z (j + 1) = cntL zs z j + b.toNat := by
  unfold cntL
  rw [← take_snoc h, List.countP_append, List.countP_singleton, hb]
  cases b <;> rfl
theorem cntG_succ {zs : List Nat} {z j : Nat} (h : j < zs.length) {b : Bool} (hb : ltF z (fig zs j) = b) : cntG zs z (j + 1) = cntG zs z j + (!b).toNat := by
  unfold cntG
  rw [← take_snoc h, List.countP_append, List.countP_singleton, hb]
  cases b <;> rfl

/-- The place k is a rank of x. -/
def Fits (zs : List Nat) (k x : Nat) : Prop := cntL zs x zs.length ≤ k ∧ k < cntG zs x zs.length

theorem fits_rel {zs : List Nat} {k x : Nat} (hk : k < zs.length) (h : Fits zs k x) : Rel false x (fig (sortedOf zs) k) := by
  unfold Fits cntL cntG at h
  rw [List.take_length] at h
  exact rank_is hk h.1 h.2

theorem some_fits {zs : List Nat} {n k : Nat} (hn : n = zs.length) (hk : k < n) (h : ∀ j, j < n → ¬ Fits zs k (fig zs j)) : False := by
  subst hn
  obtain ⟨h1, h2⟩ := rank_of hk
  have hm : fig (sortedOf zs) k ∈ zs := (perm_sorted zs).mem_iff.1 (fig_mem (by rw [sortedOf_length]; exact hk))
  obtain ⟨j, hj, e⟩ := List.getElem_of_mem hm
  have e' : fig zs j = fig (sortedOf zs) k := by rw [← e]; unfold fig; simp [List.getD, hj]
  refine h j hj ?_
  rw [e']
  unfold Fits cntL cntG
  rw [List.take_length]
  exact ⟨h1, h2⟩

def RetPick (e : Ending) (zs : List Nat) (k : Nat) : Prop := ∃ x, e = .returned (.float .f64 x) ∧ Rel false x (fig (sortedOf zs) k)

set_option maxHeartbeats 4000000 in
set_option maxRecDepth 100000 in
theorem zzRankPick_any (g cap n k : Nat) (zs : List Nat) (hn : n = zs.length) (hb : n ≤ 4096) (hk : k < n) (w : World) (h : IsFigs w (some ⟨g, 0, none⟩) zs) :
    Calls Try.prog 7 #[.slice (some ⟨g, 0, none⟩) n cap, .int .i64 k] w fun e w' => RetPick e zs k ∧ w' = w := by
  have HN := hide hn
  have H := hide h
  clear hn h
  go_enter Try.func7, Try.ntmps7
  go_wp2_with fail
  go_loopw [5] (fun x wr => ∃ (i : Nat), i ≤ n ∧ x = .int .i64 i ∧ wr = w ∧ Hid (∀ j, j < i → ¬ Fits zs k (fig zs j))) (fun x _ => n - (intOf x).toNat)
  case atStart => exact ⟨0, Nat.zero_le _, rfl, rfl, fun j hj => absurd hj (Nat.not_lt_zero j)⟩
  case round =>
    obtain ⟨i, hi, rfl, hwr, HL⟩ := hrel
    obtain rfl := hwr.symm
    clear hwr
    by_cases hlt : i < n
    · have e1 : w.cell? ⟨g, i, none⟩ = some (.float .f64 (fig zs i)) := H.out.at HN.out hlt
      obtain ⟨z, hz⟩ : ∃ z, z = fig zs i := ⟨_, rfl⟩
      rw [← hz] at e1
      have HZ := hide hz
      clear hz
      go_wp2_with fail
      clear e1
      go_loopw [7, 8, 9] (fun a b x wr => ∃ (j c d : Nat), j ≤ n ∧ x = .int .i64 j ∧ a = .int .i64 c ∧ b = .int .i64 d ∧ wr = w ∧ c ≤ j ∧ d ≤ j ∧ Hid (c = cntL zs z j ∧ d = cntG zs z j)) (fun _ _ x _ => n - (intOf x).toNat)
      case atStart => exact ⟨0, 0, 0, Nat.zero_le _, rfl, rfl, rfl, rfl, Nat.le_refl _, Nat.le_refl _, (cntL_zero _ _).symm, (cntG_zero _ _).symm⟩
      case round =>
        obtain ⟨j, c, d, hj, rfl, rfl, rfl, hwr, hc, hd, HC⟩ := hrel
        obtain rfl := hwr.symm
        clear hwr
        by_cases hlt2 : j < n
        · have e1 : w.cell? ⟨g, j, none⟩ = some (.float .f64 (fig zs j)) := H.out.at HN.out hlt2
          go_wp2_with fail
          refine (zzLess_any _ _ _).mono ?_
          rintro e w9 ⟨rfl, hw9⟩
          obtain rfl := hw9.symm
          clear hw9
          cases hb1 : ltF (fig zs j) z
          all_goals
            go_wp2_with fail
            refine (zzLess_any _ _ _).mono ?_
            rintro e w9 ⟨rfl, hw9⟩
            obtain rfl := hw9.symm
            clear hw9
            cases hb2 : ltF z (fig zs j)
          all_goals
            have HC2 := hide (And.intro (cntL_succ (by rw [← HN.out]; exact hlt2) hb1) (cntG_succ (by rw [← HN.out]; exact hlt2) hb2))
            go_wp2_with fail
            exact ⟨⟨j + 1, cntL zs z (j + 1), cntG zs z (j + 1), by omega, by go_num, by rw [HC2.out.1, ← HC.out.1]; simp, by rw [HC2.out.2, ← HC.out.2]; simp, trivial, cntL_le _ _ _, cntG_le _ _ _, rfl, rfl⟩, by simp [intOf]; omega⟩
        · obtain rfl : n = j := by omega
          by_cases hf : c ≤ k ∧ k < d
          · have HF : Hid (Fits zs k z) := by
              unfold Fits
              rw [← HN.out, ← HC.out.1, ← HC.out.2]
              exact hf
            obtain ⟨hf1, hf2⟩ := hf
            go_wp2_with fail
            go_ret
            exact ⟨⟨_, rfl, fits_rel (by rw [← HN.out]; exact hk) HF.out⟩, rfl⟩
          · have HF : Hid (¬ Fits zs k z) := by
              unfold Fits
              rw [← HN.out, ← HC.out.1, ← HC.out.2]
              exact hf
            go_wp2_with fail
            all_goals
              refine ⟨⟨i + 1, by omega, by go_num, trivial, fun j hj => ?_⟩, by simp [intOf]; omega⟩
              rcases Nat.lt_or_ge j i with hlt' | hge
              · exact HL.out j hlt'
              · obtain rfl : j = i := by omega
                rw [← HZ.out]
                exact HF.out
    · obtain rfl : n = i := by omega
      exact (some_fits HN.out hk HL.out).elim

set_option maxHeartbeats 4000000 in
theorem zzSameSpread_any (m a b m' a' b' : Nat) (h1 : sameF m m' = true) (h2 : sameF a a' = true) (h3 : sameF b b' = true) (w : World) :
    Calls Try.prog 9 #[.agg #[.float .f64 m, .float .f64 a, .float .f64 b], .agg #[.float .f64 m', .float .f64 a', .float .f64 b']] w fun e w' => e = .returned (.bool true) ∧ Below w.heap.size w w' := by
  go_enter Try.func9, Try.ntmps9
  go_wp2_with fail
  refine (zzSame_any _ _ _).mono ?_
  rintro e w9 ⟨rfl, hw9⟩
  obtain rfl := hw9.symm
  clear hw9
  rw [h1]
  go_wp2_with fail
  refine (zzSame_any _ _ _).mono ?_
  rintro e w9 ⟨rfl, hw9⟩
  obtain rfl := hw9.symm
  clear hw9
  rw [h2]
  go_wp2_with fail
  refine (zzSame_any _ _ _).mono ?_
  rintro e w9 ⟨rfl, hw9⟩
  obtain rfl := hw9.symm
  clear hw9
  rw [h3]
  go_wp2_with fail
  go_ret
  exact ⟨rfl, ((Below.refl _ _).alloc (Nat.le_refl _) _).alloc (by simp) _⟩
end Go.Proofs.Qxb6619252a
