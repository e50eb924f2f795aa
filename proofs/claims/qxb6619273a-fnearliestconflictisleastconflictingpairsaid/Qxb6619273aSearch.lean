import Derived.Test.Qxb6619273aBase
namespace Go.Proofs.Qxb6619273a
open Go.RowKit

/-- The list rises. -/
def Rising (zs : List Int) : Prop := ∀ i j, i < j → j < zs.length → atI zs i < atI zs j

/-- What the search answers: how many lie below x. -/
def Cut (zs : List Int) (x : Int) (i : Nat) : Prop := i ≤ zs.length ∧ (∀ j, j < i → atI zs j < x) ∧ ∀ j, i ≤ j → j < zs.length → x ≤ atI zs j

def RetCut (e : Ending) (zs : List Int) (x : Int) : Prop := ∃ (i : Nat) (b : Bool), e = .returned (.tuple #[.int .i64 i, .bool b]) ∧ Cut zs x i

set_option maxHeartbeats 4000000 in
set_option maxRecDepth 100000 in
theorem search_any (p : Option Addr) (n c : Nat) (zs : List Int) (x : Int) (w : World) (hn : n = zs.length) (hb : n ≤ 1048576) (hR : Rising zs) (h : Row w p (zs.map encI)) :
    Calls Try.prog 26 #[.slice p n c, .int .i64 x] w fun e w' => RetCut e zs x ∧ w' = w := by
  have HN := hide hn
  have HR := hide hR
  have H := hide h
  clear hn hR h
  go_enter Try.func26, Try.ntmps26
  go_wp2
  go_loopw [7, 8] (fun x7 x8 wr => ∃ (i j : Nat), i ≤ j ∧ j ≤ n ∧ x7 = .int .i64 i ∧ x8 = .int .i64 j ∧ wr = w ∧ Hid ((∀ k, k < i → atI zs k < x) ∧ ∀ k, j ≤ k → k < n → x ≤ atI zs k)) (fun x7 x8 _ => (intOf x8 - intOf x7).toNat)
  case atStart => exact ⟨0, n, Nat.zero_le _, Nat.le_refl _, rfl, rfl, rfl, fun k hk => absurd hk (Nat.not_lt_zero k), fun k h1 h2 => absurd h2 (by omega)⟩
  case round =>
    obtain ⟨i, j, hij, hj, rfl, rfl, hwr, HC⟩ := hrel
    obtain rfl := hwr.symm
    clear hwr
    by_cases hlt : i < j
    · obtain ⟨m, hm⟩ : ∃ m, m = (i + j) / 2 := ⟨_, rfl⟩
      have hmn : m < n := by omega
      obtain ⟨b, o, rfl, hc⟩ := Row.at (d := 0) H.out HN.out hmn
      have e1 : w.cell? ⟨b, o + m, none⟩ = some (.int .i64 (atI zs m)) := hc m hmn
      clear hc
      have hm2 : ((i : Int) + (j : Int)) / 2 = (m : Int) := by omega
      have hi1 : i ≤ m := by omega
      have hi2 : m < j := by omega
      clear hm
      have hmi : (m : Int) < (n : Int) := by omega
      have hm0 : (0 : Int) ≤ (m : Int) := by omega
      go_wp2
      · refine ⟨⟨m + 1, j, by omega, hj, by go_num, rfl, trivial, fun k hk => ?_, HC.out.2⟩, by simp [intOf]; omega⟩
        rcases Nat.lt_or_ge k m with h' | h'
        · have h1 := HR.out k m h' (by rw [← HN.out]; exact hmn)
          omega
        · obtain rfl : k = m := by omega
          assumption
      · refine ⟨⟨i, m, hi1, by omega, rfl, rfl, trivial, HC.out.1, fun k h1 h2 => ?_⟩, by simp [intOf]; omega⟩
        rcases Nat.lt_or_ge m k with h' | h'
        · have h3 := HR.out m k h' (by rw [← HN.out]; exact h2)
          omega
        · obtain rfl : k = m := by omega
          omega
    · obtain rfl : i = j := by omega
      have HF : Hid (∀ b : Bool, RetCut (.returned (.tuple #[.int .i64 i, .bool b])) zs x) := fun b => ⟨i, b, rfl, by rw [← HN.out]; exact hj, HC.out.1, fun k h1 h2 => HC.out.2 k h1 (by rw [HN.out]; exact h2)⟩
      by_cases hin : i < n
      · obtain ⟨b, o, rfl, hc⟩ := Row.at (d := 0) H.out HN.out hin
        have e1 : w.cell? ⟨b, o + i, none⟩ = some (.int .i64 (atI zs i)) := hc i hin
        clear hc
        go_wp2
        all_goals
          go_ret2
          exact ⟨HF.out _, rfl⟩
      · go_wp2
        go_ret2
        exact ⟨HF.out _, rfl⟩
end Go.Proofs.Qxb6619273a
