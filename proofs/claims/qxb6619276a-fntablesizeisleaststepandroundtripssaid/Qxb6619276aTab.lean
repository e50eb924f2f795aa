import Derived.Test.Qxb6619276aSizes
import Derived.Test.Qxb6619276aLen
import Derived.WalkKit
import Derived.WalkSpells
import Derived.WalkLawsBesides
namespace Go.Proofs.Qxb6619276a
open Go.RowKit

theorem hide {p : Prop} (h : p) : Hid p := h

theorem wrap_id {x : Int} (h0 : -4611686018427387904 ≤ x) (h1 : x ≤ 4611686018427387904) : wrap64 x = x := by
  unfold wrap64
  omega

theorem bitLen_sz (i : Nat) (h : sz i < 2 ^ 64) : Lib.bitLen (sz i) = i / 4 + 3 := by
  obtain ⟨q, c, hc, rfl⟩ := split4 i
  rw [sz_eq q c hc] at h ⊢
  have hp := two_pow_pos q
  rw [Lib.bitLen_shift q _ (Nat.le_mul_of_pos_left _ (by omega)) h, Nat.mul_div_cancel _ hp, show (4 * q + c) / 4 = q by omega]
  match c, hc with
  | 0, _ => rfl
  | 1, _ => rfl
  | 2, _ => rfl
  | 3, _ => rfl

/-- It returns the least size. -/
def RetSize (e : Ending) (n : Int) : Prop := ∃ i, e = .returned (.int .i64 (sz i : Int)) ∧ Least n i

/-- What holds at each round's head. -/
def Sofar (n : Int) (i : Nat) : Prop := i = 0 ∨ 3 * (sz (i - 1) : Int) < 4 * n

theorem pow_le_sz (i : Nat) : 2 ^ (i / 4) ≤ sz i := by
  unfold sz
  exact Nat.le_mul_of_pos_left _ (by omega)

theorem Sofar.bd {n : Int} {i : Nat} (h : Sofar n i) (h1 : n ≤ 1073741825) : sz i ≤ 4294967296 := by
  rcases h with rfl | h
  · decide
  · cases i with
    | zero => decide
    | succ k =>
      rw [Nat.add_sub_cancel] at h
      rw [sz_succ]
      have := pow_le_sz k
      omega

set_option maxHeartbeats 400000 in
set_option maxRecDepth 100000 in
theorem tableSize_any (n : Int) (w : World) (h0 : -1073741825 ≤ n) (h1 : n ≤ 1073741825) :
    Calls Try.prog 20 #[.int .i64 n] w fun e w' => RetSize e n ∧ w' = w := by
  go_enter Try.func20, Try.ntmps20
  go_wp2
  go_loop [3] (fun t => ∃ i : Nat, t = .int .i64 (sz i : Int) ∧ Hid (Sofar n i)) (fun t => (4 * n - 3 * intOf t).toNat)
  case atStart => exact ⟨0, rfl, .inl rfl⟩
  case round =>
    obtain ⟨i, rfl, HS⟩ := hrel
    have b0 := sz_ge i
    have b5 := Sofar.bd HS.out h1
    have hp : 3 * ((sz i : Nat) : Int) < 4 * n → 2 ^ (i / 4) ≤ 2147483648 := fun h => by have := pow_le_sz i; omega
    have hbd : 3 * ((sz i : Nat) : Int) < 4 * n → sz i ≤ 2147483648 := fun h => by omega
    obtain ⟨s, hs⟩ : ∃ s, s = sz i := ⟨_, rfl⟩
    obtain ⟨q, hq⟩ : ∃ q, q = i / 4 := ⟨_, rfl⟩
    rw [← hs] at b0 b5 hp hbd ⊢
    rw [← hq] at hp
    have HSZ := hide hs
    have HQ := hide hq
    have HP := hide hp
    have b4 : 4 ≤ s := by omega
    clear hs hq hp b0
    by_cases hlt : 3 * (s : Int) < 4 * n
    · have hb := hbd hlt
      clear hbd
      have hq31 : q ≤ 31 := by
        have h := HP.out hlt
        rcases Nat.lt_or_ge q 32 with h' | h'
        · omega
        · have := Nat.pow_le_pow_right (show 0 < 2 by omega) h'
          omega
      have HL : ∀ w, Calls Try.prog 28 #[.int .u64 (s : Int)] w fun e w' => e = .returned (.int .i64 ((q + 3 : Nat) : Int)) ∧ w' = w := fun w => by
        have h := bits_Len (s : Int) w (by omega) (by omega)
        rwa [Int.toNat_natCast, HSZ.out, bitLen_sz i (by rw [← HSZ.out]; omega), ← HQ.out, ← HSZ.out] at h
      have HL := hide HL
      go_wp2_with fail
      refine (HL.out _).mono ?_
      rintro e w' ⟨rfl, hw⟩
      obtain rfl := hw.symm
      clear hw
      go_wp2_with fail
      have hval : wrap64 ((s : Int) + wrap64 (2 ^ q)) = ((sz (i + 1) : Nat) : Int) := by
        have h := HP.out hlt
        have e2 : ((2 : Int) ^ q) = ((2 ^ q : Nat) : Int) := by push_cast; rfl
        rw [e2, sz_succ, ← HQ.out, ← HSZ.out]
        generalize 2 ^ q = P at h
        rw [wrap_id (x := (P : Int)) (by omega) (by omega), wrap_id (by omega) (by omega)]
        omega
      rw [hval]
      have hm := sz_lt_succ i
      rw [← HSZ.out] at hm
      go_round
      case rel => exact ⟨i + 1, rfl, .inr (by rw [Nat.add_sub_cancel, ← HSZ.out]; exact hlt)⟩
      case measure => simp [intOf]; omega
    · clear hbd
      have hfin : RetSize (.returned (.int .i64 (s : Int))) n := ⟨i, by rw [HSZ.out], by rw [← HSZ.out]; omega, HS.out⟩
      have HF := hide hfin
      clear hfin
      go_wp2
      go_ret
      exact ⟨HF.out, rfl⟩

set_option maxHeartbeats 400000 in
theorem zztableSize_any (n : Int) (w : World) (h0 : -1073741825 ≤ n) (h1 : n ≤ 1073741825) :
    Calls Try.prog 14 #[.int .i64 n] w fun e w' => RetSize e n ∧ w' = w := by
  go_enter Try.func14, Try.ntmps14
  go_wp2_with (go_at_call 20; refine (tableSize_any n _ h0 h1).mono ?_; rintro e w' ⟨⟨i, rfl, hl⟩, rfl⟩)
  go_ret
  exact ⟨⟨i, rfl, hl⟩, rfl⟩
end Go.Proofs.Qxb6619276a
