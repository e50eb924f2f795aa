import Derived.Test.Qxb6619276aRound2
namespace Go.Proofs.Qxb6619276a

theorem quot_mid {h D l E p : Nat} (hl : l < 18446744073709551616) (hp : h * 18446744073709551616 + l = p) : (p + D * 18446744073709551616) / (18446744073709551616 * E) = (h + D) / E := by
  rw [← Nat.div_div_eq_div_mul]
  congr 1
  rw [Nat.div_eq_iff (by omega)]
  rw [← hp, Nat.add_mul]
  omega

theorem mid_parts {s : Nat} (hs : 65 ≤ s) (hs2 : s ≤ 73) : ∃ D E : Nat, 2 ^ (s - 1) = D * 18446744073709551616 ∧ 2 ^ s = 18446744073709551616 * E ∧ (2 : Int) ^ (s - 65) = (D : Int) ∧ (2 : Int) ^ (s - 64) = (E : Int) ∧ D ≤ 256 := by
  refine ⟨2 ^ (s - 65), 2 ^ (s - 64), ?_, ?_, by norm_cast, by norm_cast, ?_⟩
  · rw [show 18446744073709551616 = 2 ^ 64 from rfl, ← Nat.pow_add]
    congr 1
    omega
  · rw [show 18446744073709551616 = 2 ^ 64 from rfl, ← Nat.pow_add]
    congr 1
    omega
  · rw [show 256 = 2 ^ 8 from rfl]
    exact Nat.pow_le_pow_right (by omega) (by omega)

set_option maxHeartbeats 2000000 in
set_option maxRecDepth 100000 in
theorem round_mid {x t f m s : Nat} {ex : Int} {g : Bool} (hex : 53 - ex = (s : Int)) (hx : x < 18446744073709551616) (hnan : nan x = false) (hinf : inf x = false) (hr : rung x = t)
    (hg : (FloatKind.f64.format.order x 0 == some .lt) = g)
    (hF : ∀ w, Calls Try.prog 23 #[.float .f64 t] w fun e w' => e = .returned (.tuple #[.float .f64 f, .int .i64 ex]) ∧ w' = w)
    (wf : Nat) (hL : ∀ w, Calls Try.prog 25 #[.float .f64 f, .int .i64 53] w fun e w' => e = .returned (.float .f64 wf) ∧ w' = w)
    (hI : floatToIntVal .f64 wf .u64 = some (m : Int)) (hm : m < 9007199254740992) (hs : 65 ≤ s) (hs2 : s ≤ 73) (w : World) :
    Calls Try.prog 16 #[.float .f64 x] w fun e w' => RetQ g ((m * 1000000 + 2 ^ (s - 1)) / 2 ^ s) e ∧ w' = w := by
  have hc : ∀ w, (convert 22 29 (.float .f64 wf)).run Try.prog w = .ok (.int .u64 (m : Int)) w := fun w => run_convert_float_int w 22 29 .f64 .u64 wf m (by rw [Try.underlying22]; rfl) Try.underlying29 hI
  have hN := isNaN_any x
  rw [hnan] at hN
  have hJ := isInf_any x hx
  rw [hinf] at hJ
  have hA := abs_any x hx
  rw [hr] at hA
  obtain ⟨h, l, hh, hl, hp, hM⟩ := mul_det hm
  obtain ⟨D, E, eD, eE, p1, p2, hD⟩ := mid_parts hs hs2
  rw [eD, eE, quot_mid hl hp]
  clear eD eE hp
  have hadd : ∀ w, (callFunc 27 #[.int .u64 (l : Int), .int .u64 0, .int .u64 0]).run Try.prog w = .ok (.value (.tuple #[.int .u64 (l : Int), .int .u64 0])) w := by
    intro w
    rw [call_add64 _ _ (by omega) (by omega)]
    have e1 : ((l : Int) + 0) % 18446744073709551616 = (l : Int) := by omega
    have e2 : ((l : Int) + 0) / 18446744073709551616 = 0 := by omega
    rw [e1, e2]
  have hQ : ((h : Int) + (D : Int)) / (E : Int) = (((h + D) / E : Nat) : Int) := by
    rw [Int.natCast_ediv]
    rfl
  have hQ2 : (h + D) / E ≤ 2000 := Nat.le_trans (Nat.div_le_self _ _) (by omega)
  generalize (h + D) / E = Q at *
  go_enter Try.func16, Try.ntmps16
  go_wp2_with (first
    | (go_at_call 22; refine (hJ _).mono ?_; rintro e w' ⟨rfl, rfl⟩)
    | (go_at_call 21; refine (hN _).mono ?_; rintro e w' ⟨rfl, rfl⟩)
    | (go_at_call 24; refine (hA _).mono ?_; rintro e w' ⟨rfl, rfl⟩)
    | (go_at_call 23; refine (hF _).mono ?_; rintro e w' ⟨rfl, rfl⟩)
    | (go_at_call 25; refine (hL _).mono ?_; rintro e w' ⟨rfl, rfl⟩)
    | (go_at_call 26; refine (hM _).mono ?_; rintro e w' ⟨rfl, rfl⟩))
  · rename_i hg2
    have e9 := retQ_neg (Q := Q) (by omega)
    rw [hg2]
    go_ret2
    exact ⟨e9, rfl⟩
  · rename_i hg2
    have e9 := retQ_pos (Q := Q) (by omega)
    rw [hg2]
    go_ret2
    exact ⟨e9, rfl⟩

set_option maxHeartbeats 2000000 in
set_option maxRecDepth 100000 in
theorem round_64 {x t f m s : Nat} {ex : Int} {g : Bool} (hex : 53 - ex = (s : Int)) (hx : x < 18446744073709551616) (hnan : nan x = false) (hinf : inf x = false) (hr : rung x = t)
    (hg : (FloatKind.f64.format.order x 0 == some .lt) = g)
    (hF : ∀ w, Calls Try.prog 23 #[.float .f64 t] w fun e w' => e = .returned (.tuple #[.float .f64 f, .int .i64 ex]) ∧ w' = w)
    (wf : Nat) (hL : ∀ w, Calls Try.prog 25 #[.float .f64 f, .int .i64 53] w fun e w' => e = .returned (.float .f64 wf) ∧ w' = w)
    (hI : floatToIntVal .f64 wf .u64 = some (m : Int)) (hm : m < 9007199254740992) (hs : s = 64) (w : World) :
    Calls Try.prog 16 #[.float .f64 x] w fun e w' => RetQ g ((m * 1000000 + 2 ^ (s - 1)) / 2 ^ s) e ∧ w' = w := by
  have hc : ∀ w, (convert 22 29 (.float .f64 wf)).run Try.prog w = .ok (.int .u64 (m : Int)) w := fun w => run_convert_float_int w 22 29 .f64 .u64 wf m (by rw [Try.underlying22]; rfl) Try.underlying29 hI
  have hN := isNaN_any x
  rw [hnan] at hN
  have hJ := isInf_any x hx
  rw [hinf] at hJ
  have hA := abs_any x hx
  rw [hr] at hA
  obtain ⟨h, l, hh, hl, hp, hM⟩ := mul_det hm
  obtain ⟨lo, c, hlo, hc1, hlc, hadd⟩ := add_det (l := l) (H := 9223372036854775808) hl (by omega)
  have hN2 := two_words hp hlc
  subst hs
  rw [show 2 ^ (64 - 1) = 9223372036854775808 from rfl, show 2 ^ 64 = 18446744073709551616 from rfl]
  have hQ : (m * 1000000 + 9223372036854775808) / 18446744073709551616 = h + c := by
    rw [hN2, Nat.div_eq_iff (by omega)]
    omega
  rw [hQ]
  clear hQ hN2 hp hlc
  have hadd2 : ∀ w, (callFunc 27 #[.int .u64 (l : Int), .int .u64 9223372036854775808, .int .u64 0]).run Try.prog w = .ok (.value (.tuple #[.int .u64 (lo : Int), .int .u64 (c : Int)])) w := hadd
  clear hadd
  have hQ : (h : Int) + (c : Int) = ((h + c : Nat) : Int) := by omega
  have hQ2 : h + c ≤ 2000 := by omega
  have e8 : RetQ true (h + c) (.returned (.tuple #[.int .i64 (-((h : Int) + (c : Int))), .bool true])) := by
    rw [hQ]
    exact retQ_neg (by omega)
  have e9 : RetQ false (h + c) (.returned (.tuple #[.int .i64 ((h : Int) + (c : Int)), .bool true])) := by
    rw [hQ]
    exact retQ_pos (by omega)
  have hex2 : 53 - ex = 64 := hex
  clear hex hQ
  go_enter Try.func16, Try.ntmps16
  go_wp2_with (first
    | (go_at_call 22; refine (hJ _).mono ?_; rintro e w' ⟨rfl, rfl⟩)
    | (go_at_call 21; refine (hN _).mono ?_; rintro e w' ⟨rfl, rfl⟩)
    | (go_at_call 24; refine (hA _).mono ?_; rintro e w' ⟨rfl, rfl⟩)
    | (go_at_call 23; refine (hF _).mono ?_; rintro e w' ⟨rfl, rfl⟩)
    | (go_at_call 25; refine (hL _).mono ?_; rintro e w' ⟨rfl, rfl⟩)
    | (go_at_call 26; refine (hM _).mono ?_; rintro e w' ⟨rfl, rfl⟩))
  · rename_i hg2
    rw [hg2]
    go_ret2
    exact ⟨e8, rfl⟩
  · rename_i hg2
    rw [hg2]
    go_ret2
    exact ⟨e9, rfl⟩

set_option maxHeartbeats 2000000 in
set_option maxRecDepth 100000 in
theorem round_tiny {x t f m s : Nat} {ex : Int} {g : Bool} (hex : 53 - ex = (s : Int)) (hx : x < 18446744073709551616) (hnan : nan x = false) (hinf : inf x = false) (hr : rung x = t)
    (hg : (FloatKind.f64.format.order x 0 == some .lt) = g)
    (hF : ∀ w, Calls Try.prog 23 #[.float .f64 t] w fun e w' => e = .returned (.tuple #[.float .f64 f, .int .i64 ex]) ∧ w' = w)
    (wf : Nat) (hL : ∀ w, Calls Try.prog 25 #[.float .f64 f, .int .i64 53] w fun e w' => e = .returned (.float .f64 wf) ∧ w' = w)
    (hI : floatToIntVal .f64 wf .u64 = some (m : Int)) (hm : m < 9007199254740992) (hs : 74 ≤ s) (hs2 : s ≤ 1200) (w : World) :
    Calls Try.prog 16 #[.float .f64 x] w fun e w' => RetQ g ((m * 1000000 + 2 ^ (s - 1)) / 2 ^ s) e ∧ w' = w := by
  have hc : ∀ w, (convert 22 29 (.float .f64 wf)).run Try.prog w = .ok (.int .u64 (m : Int)) w := fun w => run_convert_float_int w 22 29 .f64 .u64 wf m (by rw [Try.underlying22]; rfl) Try.underlying29 hI
  have hN := isNaN_any x
  rw [hnan] at hN
  have hJ := isInf_any x hx
  rw [hinf] at hJ
  have hA := abs_any x hx
  rw [hr] at hA
  have hQ : (m * 1000000 + 2 ^ (s - 1)) / 2 ^ s = 0 := by
    have h1 : 2 ^ s = 2 ^ (s - 1) + 2 ^ (s - 1) := by
      rw [← Nat.two_mul, Nat.mul_comm, ← Nat.pow_succ]
      congr 1
      omega
    have h2 : 2 ^ 73 ≤ 2 ^ (s - 1) := Nat.pow_le_pow_right (by omega) (by omega)
    rw [h1]
    rw [show 2 ^ 73 = 9444732965739290427392 from rfl] at h2
    generalize 2 ^ (s - 1) = P at *
    exact Nat.div_eq_of_lt (by omega)
  rw [hQ]
  have e8 : RetQ g 0 (.returned (.tuple #[.int .i64 0, .bool true])) := by
    cases g
    · exact retQ_pos (by omega)
    · exact retQ_neg (Q := 0) (by omega)
  clear hQ
  go_enter Try.func16, Try.ntmps16
  go_wp2_with (first
    | (go_at_call 22; refine (hJ _).mono ?_; rintro e w' ⟨rfl, rfl⟩)
    | (go_at_call 21; refine (hN _).mono ?_; rintro e w' ⟨rfl, rfl⟩)
    | (go_at_call 24; refine (hA _).mono ?_; rintro e w' ⟨rfl, rfl⟩)
    | (go_at_call 23; refine (hF _).mono ?_; rintro e w' ⟨rfl, rfl⟩)
    | (go_at_call 25; refine (hL _).mono ?_; rintro e w' ⟨rfl, rfl⟩))
  go_ret2
  exact ⟨e8, rfl⟩

set_option maxHeartbeats 2000000 in
set_option maxRecDepth 100000 in
theorem round_exp {x t f : Nat} {ex : Int} (hex : 53 ≤ ex) (hx : x < 18446744073709551616) (hnan : nan x = false) (hinf : inf x = false) (hr : rung x = t)
    (hF : ∀ w, Calls Try.prog 23 #[.float .f64 t] w fun e w' => e = .returned (.tuple #[.float .f64 f, .int .i64 ex]) ∧ w' = w) (w : World) :
    Calls Try.prog 16 #[.float .f64 x] w fun e w' => e = .returned (.tuple #[.int .i64 0, .bool false]) ∧ w' = w := by
  have hN := isNaN_any x
  rw [hnan] at hN
  have hJ := isInf_any x hx
  rw [hinf] at hJ
  have hA := abs_any x hx
  rw [hr] at hA
  go_enter Try.func16, Try.ntmps16
  go_wp2_with (first
    | (go_at_call 22; refine (hJ _).mono ?_; rintro e w' ⟨rfl, rfl⟩)
    | (go_at_call 21; refine (hN _).mono ?_; rintro e w' ⟨rfl, rfl⟩)
    | (go_at_call 24; refine (hA _).mono ?_; rintro e w' ⟨rfl, rfl⟩)
    | (go_at_call 23; refine (hF _).mono ?_; rintro e w' ⟨rfl, rfl⟩))
  go_ret2
  exact ⟨rfl, rfl⟩

set_option maxHeartbeats 2000000 in
set_option maxRecDepth 100000 in
theorem round_not {x : Nat} (hx : x < 18446744073709551616) (h : 9218868437227405312 ≤ rung x) (w : World) :
    Calls Try.prog 16 #[.float .f64 x] w fun e w' => e = .returned (.tuple #[.int .i64 0, .bool false]) ∧ w' = w := by
  have hN := isNaN_any x
  have hJ := isInf_any x hx
  by_cases hn : 9218868437227405312 < rung x
  · have hnan : nan x = true := by unfold nan; exact decide_eq_true hn
    rw [hnan] at hN
    go_enter Try.func16, Try.ntmps16
    go_wp2_with (first
      | (go_at_call 21; refine (hN _).mono ?_; rintro e w' ⟨rfl, rfl⟩))
    go_ret2
    exact ⟨rfl, rfl⟩
  · have hnan : nan x = false := by unfold nan; exact decide_eq_false hn
    have hinf : inf x = true := by unfold inf; exact decide_eq_true (by omega)
    rw [hnan] at hN
    rw [hinf] at hJ
    go_enter Try.func16, Try.ntmps16
    go_wp2_with (first
      | (go_at_call 22; refine (hJ _).mono ?_; rintro e w' ⟨rfl, rfl⟩)
      | (go_at_call 21; refine (hN _).mono ?_; rintro e w' ⟨rfl, rfl⟩))
    go_ret2
    exact ⟨rfl, rfl⟩
end Go.Proofs.Qxb6619276a
