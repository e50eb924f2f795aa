import Derived.Test.Qxb6619273aSearch
namespace Go.Proofs.Qxb6619273a
open Go.RowKit

/-- Positions p, q are a conflict from u to v. -/
def Conf (N I : List Int) (W : List Bool) (u v : Int) (n p q : Nat) : Prop :=
  p < q ∧ q < n ∧ atI N p = u ∧ atI N q = v ∧ atI I q = atI I p ∧ (atB W p = true ∨ atB W q = true)

/-- (p, q) is the least conflict. -/
def Least (N I : List Int) (W : List Bool) (u v : Int) (n p q : Nat) : Prop :=
  Conf N I W u v n p q ∧ (∀ p' q', p' < p → ¬ Conf N I W u v n p' q') ∧ ∀ q', q' < q → ¬ Conf N I W u v n p q'

def RetFirst (e : Ending) (N I : List Int) (W : List Bool) (u v : Int) (n : Nat) : Prop :=
  e = .returned (.tuple #[.int .i64 (-1), .int .i64 (-1)]) ∨ ∃ p q : Nat, e = .returned (.tuple #[.int .i64 p, .int .i64 q]) ∧ Least N I W u v n p q

set_option maxHeartbeats 2000000 in
set_option maxRecDepth 100000 in
theorem first_any (p2 p3 p4 : Option Addr) (n c2 c3 c4 : Nat) (N I : List Int) (W : List Bool) (u v : Int) (w : World) (h2 : n = N.length) (h3 : n = I.length) (h4 : n = W.length) (hb : n ≤ 4096)
    (hN : Row w p2 (N.map encI)) (hI : Row w p3 (I.map encI)) (hW : Row w p4 (W.map encB)) :
    Calls Try.prog 13 #[.slice p2 n c2, .slice p3 n c3, .slice p4 n c4, .int .i64 u, .int .i64 v] w fun e w' => RetFirst e N I W u v n ∧ ∃ m, w' = w.drewN m := by
  have H2 := hide h2
  have H3 := hide h3
  have H4 := hide h4
  have HN := hide hN
  have HI := hide hI
  have HW := hide hW
  clear h2 h3 h4 hN hI hW
  go_enter Try.func13, Try.ntmps13
  go_wp2_with fail
  go_loopw [13] (fun x wr => ∃ (p m : Nat), p ≤ n ∧ x = .int .i64 p ∧ wr = w.drewN m ∧ Hid (∀ p' q', p' < p → ¬ Conf N I W u v n p' q')) (fun x _ => n - (intOf x).toNat)
  case atStart => exact ⟨0, 0, Nat.zero_le _, rfl, rfl, fun p' q' h => absurd h (Nat.not_lt_zero _)⟩
  case round =>
    obtain ⟨p, m, hp, rfl, hwr, HL⟩ := hrel
    obtain rfl := hwr.symm
    clear hwr
    by_cases hlt : p < n
    · obtain ⟨b2, o2, rfl, k2⟩ := Row.at (d := 0) HN.out H2.out hlt
      obtain ⟨b3, o3, rfl, k3⟩ := Row.at (d := 0) HI.out H3.out hlt
      obtain ⟨b4, o4, rfl, k4⟩ := Row.at (d := false) HW.out H4.out hlt
      have K2 : Hid (∀ j, j < n → w.cell? ⟨b2, o2 + j, none⟩ = some (.int .i64 (atI N j))) := k2
      have K3 : Hid (∀ j, j < n → w.cell? ⟨b3, o3 + j, none⟩ = some (.int .i64 (atI I j))) := k3
      have K4 : Hid (∀ j, j < n → w.cell? ⟨b4, o4 + j, none⟩ = some (.bool (atB W j))) := k4
      clear k2 k3 k4 HN HI HW
      have e2 := K2.out p hlt
      have e3 := K3.out p hlt
      have e4 := K4.out p hlt
      by_cases hu : atI N p = u
      · have hpi : (p : Int) < (n : Int) := by omega
        go_wp2_with fail
        go_loopw [14] (fun x wr => ∃ (q m : Nat), p + 1 ≤ q ∧ q ≤ n ∧ x = .int .i64 q ∧ wr = w.drewN m ∧ Hid (∀ q', q' < q → ¬ Conf N I W u v n p q')) (fun x _ => n - (intOf x).toNat)
        case atStart => exact ⟨p + 1, m, Nat.le_refl _, by omega, by go_num, rfl, fun q' h hc => absurd hc.1 (by omega)⟩
        case round =>
          obtain ⟨q, m', hq, hqn, rfl, hwr, HM⟩ := hrel
          obtain rfl := hwr.symm
          clear hwr
          by_cases hlt2 : q < n
          · have f2 := K2.out q hlt2
            have f3 := K3.out q hlt2
            have f4 := K4.out q hlt2
            have hqi : (q : Int) < (n : Int) := by omega
            have NO : Hid (¬ Conf N I W u v n p q → ∀ q', q' < q + 1 → ¬ Conf N I W u v n p q') := fun hno q' hq' => by
              rcases Nat.lt_or_ge q' q with h' | h'
              · exact HM.out q' h'
              · obtain rfl : q' = q := by omega
                exact hno
            by_cases hv : atI N q = v
            · have gv : (atI N q == v) = true := by simp [hv]
              by_cases hi : atI I q = atI I p
              · have gi : (atI I q == atI I p) = true := by simp [hi]
                by_cases h1 : atB W p = true
                · have HF : Hid (Least N I W u v n p q) := ⟨⟨by omega, hlt2, hu, hv, hi, .inl h1⟩, HL.out, HM.out⟩
                  rw [h1] at e4
                  go_wp2_with fail
                  go_quiet (fail)
                  go_wp2_with fail
                  go_ret2
                  exact ⟨.inr ⟨p, q, rfl, HF.out⟩, _, World.drewN_drewN _ _ _⟩
                · have h1' : atB W p = false := by simpa using h1
                  by_cases h2 : atB W q = true
                  · have HF : Hid (Least N I W u v n p q) := ⟨⟨by omega, hlt2, hu, hv, hi, .inr h2⟩, HL.out, HM.out⟩
                    rw [h1'] at e4
                    rw [h2] at f4
                    go_wp2_with fail
                    go_quiet (fail)
                    go_wp2_with fail
                    go_ret2
                    exact ⟨.inr ⟨p, q, rfl, HF.out⟩, _, World.drewN_drewN _ _ _⟩
                  · have h2' : atB W q = false := by simpa using h2
                    rw [h1'] at e4
                    rw [h2'] at f4
                    go_wp2_with fail
                    go_quiet (fail)
                    go_wp2_with fail
                    exact ⟨⟨q + 1, _, by omega, by omega, by go_num, rfl, NO.out (fun hc => by rcases hc.2.2.2.2.2 with h | h <;> simp_all)⟩, by simp [intOf]; omega⟩
              · have gi : (atI I q == atI I p) = false := by simp [hi]
                go_wp2_with fail
                go_quiet (fail)
                go_wp2_with fail
                exact ⟨⟨q + 1, _, by omega, by omega, by go_num, rfl, NO.out (fun hc => hi hc.2.2.2.2.1)⟩, by simp [intOf]; omega⟩
            · have gv : (atI N q == v) = false := by simp [hv]
              go_wp2_with fail
              go_quiet (fail)
              go_wp2_with fail
              exact ⟨⟨q + 1, _, by omega, by omega, by go_num, rfl, NO.out (fun hc => hv hc.2.2.2.1)⟩, by simp [intOf]; omega⟩
          · obtain rfl : n = q := by omega
            go_wp2_with fail
            refine ⟨⟨p + 1, _, by omega, by go_num, rfl, fun p' q' hp' hc => ?_⟩, by simp [intOf]; omega⟩
            rcases Nat.lt_or_ge p' p with h' | h'
            · exact HL.out p' q' h' hc
            · obtain rfl : p' = p := by omega
              exact HM.out q' hc.2.1 hc
      · have gu : (atI N p != u) = true := by simp [hu]
        go_wp2_with fail
        refine ⟨⟨p + 1, _, by omega, by go_num, rfl, fun p' q' hp' hc => ?_⟩, by simp [intOf]; omega⟩
        rcases Nat.lt_or_ge p' p with h' | h'
        · exact HL.out p' q' h' hc
        · obtain rfl : p' = p := by omega
          exact hu hc.2.2.1
    · go_wp2_with fail
      go_ret2
      exact ⟨.inl rfl, _, rfl⟩
end Go.Proofs.Qxb6619273a
