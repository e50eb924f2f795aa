import Derived.Test.Qxb6619276aFops
import Derived.Laws.Externs
import Derived.Laws.Bits64b
import Derived.Deep.RegionHeld3
import Derived.Deep.QuietTactic
import Derived.BigQuiet
import Derived.WalkSpells
namespace Go.Proofs.Qxb6619276a

/-! ### Bits -/

theorem andNot_nat (a b : Nat) (ha : a < 18446744073709551616) (hb : b < 18446744073709551616) : bits .andNot .u64 (a : Int) (b : Int) = ((a &&& (18446744073709551615 - b) : Nat) : Int) := by
  have hx : a &&& (18446744073709551615 - b) < 2 ^ 64 := Nat.and_lt_two_pow _ (by omega)
  have h1 : (BitVec.ofInt 64 (a : Int)).toNat = a := by
    rw [BitVec.ofInt_natCast, BitVec.toNat_ofNat]; exact Nat.mod_eq_of_lt (by omega)
  have h2 : (BitVec.ofInt 64 (b : Int)).toNat = b := by
    rw [BitVec.ofInt_natCast, BitVec.toNat_ofNat]; exact Nat.mod_eq_of_lt (by omega)
  show IntKind.u64.wrap ((BitVec.ofInt 64 (a : Int) &&& ~~~ BitVec.ofInt 64 (b : Int)).toNat : Int) = _
  rw [BitVec.toNat_and, BitVec.toNat_not, h1, h2, IntKind.wrap_u64, show 2 ^ 64 - 1 - b = 18446744073709551615 - b from rfl]
  omega

theorem andNot_sign (a : Nat) (ha : a < 18446744073709551616) : bits .andNot .u64 (a : Int) 9223372036854775808 = (rung a : Int) := by
  have h := andNot_nat a 9223372036854775808 ha (by omega)
  rw [show ((9223372036854775808 : Nat) : Int) = 9223372036854775808 from rfl] at h
  rw [h, show 18446744073709551615 - 9223372036854775808 = 2 ^ 63 - 1 from rfl, Nat.and_two_pow_sub_one_eq_mod]
  rfl

theorem andNot_exp (a : Nat) (ha : a < 9223372036854775808) : bits .andNot .u64 (a : Int) 9218868437227405312 = ((a % 4503599627370496 : Nat) : Int) := by
  have h := andNot_nat a 9218868437227405312 (by omega) (by omega)
  rw [show ((9218868437227405312 : Nat) : Int) = 9218868437227405312 from rfl] at h
  rw [h]
  congr 1
  have h1 : a &&& (18446744073709551615 - 9218868437227405312) ≤ a := Nat.and_le_left
  have h2 := Nat.and_mod_two_pow (a := a) (b := 18446744073709551615 - 9218868437227405312) (n := 63)
  rw [Nat.mod_eq_of_lt (by omega), Nat.mod_eq_of_lt (show a < 2 ^ 63 by omega), show (18446744073709551615 - 9218868437227405312) % 2 ^ 63 = 2 ^ 52 - 1 from rfl, Nat.and_two_pow_sub_one_eq_mod] at h2
  exact h2

theorem and_2047 (a : Nat) (ha : a < 18446744073709551616) : bits .and .u64 (a : Int) 2047 = ((a % 2048 : Nat) : Int) := by
  have h := bits_and_u64_nat a 2047 ha (by omega)
  rw [show ((2047 : Nat) : Int) = 2047 from rfl] at h
  rw [h, show 2047 = 2 ^ 11 - 1 from rfl, Nat.and_two_pow_sub_one_eq_mod]

theorem and_2047_i (a : Nat) (ha : a < 9223372036854775808) : bits .and .i64 (a : Int) 2047 = ((a % 2048 : Nat) : Int) := by
  have hx : a &&& 2047 < 2 ^ 11 := Nat.and_lt_two_pow _ (by omega)
  have h1 : (BitVec.ofInt 64 (a : Int)).toNat = a := by
    rw [BitVec.ofInt_natCast, BitVec.toNat_ofNat]; exact Nat.mod_eq_of_lt (by omega)
  have h2 : (BitVec.ofInt 64 (2047 : Int)).toNat = 2047 := by decide
  show IntKind.i64.wrap ((BitVec.ofInt 64 (a : Int) &&& BitVec.ofInt 64 (2047 : Int)).toNat : Int) = _
  rw [BitVec.toNat_and, h1, h2, show a % 2048 = a &&& 2047 by rw [show 2047 = 2 ^ 11 - 1 from rfl, Nat.and_two_pow_sub_one_eq_mod]]
  generalize a &&& 2047 = q at hx
  simp only [IntKind.wrap, IntKind.bits, IntKind.signed]
  simp
  omega

theorem or_high (f c : Nat) (hf : f < 4503599627370496) (hc : c < 4096) : bits .or .u64 (f : Int) ((c * 4503599627370496 : Nat) : Int) = ((c * 4503599627370496 + f : Nat) : Int) := by
  rw [bits_or_u64_nat f _ (by omega) (by omega)]
  have := Nat.two_pow_add_eq_or_of_lt (i := 52) (b := f) (by omega) c
  rw [Nat.or_comm, show c * 4503599627370496 = 2 ^ 52 * c by rw [Nat.mul_comm], ← this]

/-! ### The library's small functions -/

theorem call_bits (x : Nat) (w : World) : (callFunc 32 #[.float .f64 x]).run Try.prog w = .ok (.value (.int .u64 x)) w := by
  rw [run_callFunc_extern Try.func32 (by kernel_rfl) (by kernel_rfl) (by kernel_rfl) (e := Extern.MathFloatBits.float64bits) (by kernel_rfl)]
  rfl

theorem call_frombits (n : Int) (w : World) : (callFunc 31 #[.int .u64 n]).run Try.prog w = .ok (.value (.float .f64 n.toNat)) w := by
  rw [run_callFunc_extern Try.func31 (by kernel_rfl) (by kernel_rfl) (by kernel_rfl) (e := Extern.MathFloatBits.float64frombits) (by kernel_rfl)]
  rfl

theorem call_add64 (x y : Int) (hx : 0 ≤ x) (hy : 0 ≤ y) (w : World) : (callFunc 27 #[.int .u64 x, .int .u64 y, .int .u64 0]).run Try.prog w =
    .ok (.value (.tuple #[.int .u64 ((x + y) % 18446744073709551616), .int .u64 ((x + y) / 18446744073709551616)])) w := by
  rw [run_callFunc_extern Try.func27 (by kernel_rfl) (by kernel_rfl) (by kernel_rfl) (e := add64Entry) (by kernel_rfl), run_add64 x y 0 hx hy (by omega) (by omega), Int.add_zero]
  rfl

/-- Is the word's figure no number? -/
def nan (x : Nat) : Bool := decide (9218868437227405312 < rung x)
/-- Is it an infinity? -/
def inf (x : Nat) : Bool := decide (rung x = 9218868437227405312)

theorem isNum_iff (x : Nat) : isNum x ↔ nan x = false := by
  unfold isNum nan
  simp

theorem ord_self (x : Nat) : (Ieee.double.order x x == some .eq) = !nan x := by
  show (ord x x == some .eq) = _
  cases h : nan x
  · have h' := (isNum_iff x).2 h
    rw [order_num h' h', Int.compare_eq_eq.2 rfl]; rfl
  · have h' : ¬ isNum x := by rw [isNum_iff, h]; simp
    rw [order_nan (.inl h')]; rfl

theorem isNaN_any (x : Nat) (w : World) : Calls Try.prog 21 #[.float .f64 x] w fun e w' => e = .returned (.bool (nan x)) ∧ w' = w := by
  go_enter Try.func21, Try.ntmps21
  go_wp2
  go_ret
  refine ⟨?_, rfl⟩
  have h := ord_self x
  have e : nan x = !(Ieee.double.order x x == some .eq) := by rw [h]; simp
  rw [e]
  rfl

theorem abs_any (x : Nat) (hx : x < 18446744073709551616) (w : World) : Calls Try.prog 24 #[.float .f64 x] w fun e w' => e = .returned (.float .f64 (rung x)) ∧ w' = w := by
  go_enter Try.func24, Try.ntmps24
  go_wp2_with (first | simp only [call_bits] | simp only [call_frombits])
  go_ret
  refine ⟨?_, rfl⟩
  simp only [andNot_sign x hx, Int.toNat_natCast]
  rfl

theorem rung_lt (x : Nat) : rung x < 9223372036854775808 := Nat.mod_lt _ (by omega)
theorem rung_rung (x : Nat) : rung (rung x) = rung x := (rung_pos (rung_lt x)).1
theorem neg_rung (x : Nat) : neg (rung x) = false := (rung_pos (rung_lt x)).2

theorem inf_order (x : Nat) : (Ieee.double.order (rung x) 9218868437227405311 == some .gt) = inf x := by
  show (ord (rung x) 9218868437227405311 == some .gt) = _
  have hm : isNum 9218868437227405311 := by unfold isNum; decide
  cases h : nan x
  · have h' := (isNum_iff x).2 h
    have h2 : isNum (rung x) := by unfold isNum at *; rw [rung_rung]; exact h'
    have ek : key (rung x) = (mag (rung x) : Int) := by unfold key; rw [neg_rung, rung_rung]; rfl
    have em : key 9218868437227405311 = (mag 9218868437227405311 : Int) := by
      obtain ⟨h1, h2⟩ := rung_pos (t := 9218868437227405311) (by omega)
      unfold key; rw [h1, h2]; rfl
    rw [order_num h2 hm, ek, em]
    unfold isNum at h'
    unfold inf
    rcases Nat.lt_or_eq_of_le h' with h3 | h3
    · have h4 : mag (rung x) ≤ mag 9218868437227405311 := (mag_le_iff _ _).2 (by omega)
      have h5 : ¬ (rung x = 9218868437227405312) := by omega
      rw [decide_eq_false h5]
      generalize mag (rung x) = A at *
      generalize mag 9218868437227405311 = B at *
      rcases Nat.lt_or_eq_of_le h4 with h6 | h6
      · rw [Int.compare_eq_lt.2 (by omega)]; rfl
      · rw [Int.compare_eq_eq.2 (by omega)]; rfl
    · rw [h3]
      have h4 : mag 9218868437227405311 < mag 9218868437227405312 := mag_mono (by omega)
      generalize mag 9218868437227405312 = A at *
      generalize mag 9218868437227405311 = B at *
      rw [Int.compare_eq_gt.2 (by omega)]; rfl
  · have h' : ¬ isNum (rung x) := by
      have h1 : ¬ isNum x := by rw [isNum_iff, h]; simp
      unfold isNum at *
      rw [rung_rung]; exact h1
    rw [order_nan (.inl h')]
    unfold nan at h
    unfold inf
    have h1 := of_decide_eq_true h
    rw [decide_eq_false (by omega)]
    rfl

theorem isInf_any (x : Nat) (hx : x < 18446744073709551616) (w : World) : Calls Try.prog 22 #[.float .f64 x, .int .i64 0] w fun e w' => e = .returned (.bool (inf x)) ∧ w' = w := by
  go_enter Try.func22, Try.ntmps22
  go_wp2_with (go_at_call 24; refine (abs_any x hx _).mono ?_; rintro e w' ⟨rfl, rfl⟩)
  go_ret
  refine ⟨?_, rfl⟩
  rw [← inf_order]
  rfl
end Go.Proofs.Qxb6619276a
