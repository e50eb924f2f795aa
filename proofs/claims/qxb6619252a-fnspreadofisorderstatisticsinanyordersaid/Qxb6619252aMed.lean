import Derived.Test.Qxb6619252aSpread
namespace Go.Proofs.Qxb6619252a
open Go.Sort

/-! ### Signs: b tells whether the second figure is the first one's opposite -/

/-- x' is x (b = false) or its opposite (b = true), up to the sign of zero and the payload of a NaN. -/
def Rel (b : Bool) (x x' : Nat) : Prop := (¬ isNum x ∧ ¬ isNum x') ∨ (isNum x ∧ isNum x' ∧ key x' = if b then - key x else key x)

theorem key_zero {x : Nat} (h : rung x = 0) : key x = 0 := by
  unfold key
  rw [h, mag_zero]
  simp

theorem key_abs (x : Nat) : (key x).natAbs = mag (rung x) := by
  unfold key
  split <;> omega

/-- Two figures that are equal or opposite have one rung; and the signs agree, or differ, as they must, unless both are zero. -/
theorem Rel.parts {b : Bool} {x x' : Nat} (h : Rel b x x') (hx : isNum x) : isNum x' ∧ rung x' = rung x ∧ (rung x = 0 ∨ neg x' = (b ^^ neg x)) := by
  rcases h with ⟨h1, _⟩ | ⟨_, h2, h3⟩
  · exact absurd hx h1
  · have ha : (key x').natAbs = (key x).natAbs := by rw [h3]; split <;> omega
    rw [key_abs, key_abs] at ha
    have hr := mag_inj ha
    refine ⟨h2, hr, ?_⟩
    by_cases h0 : rung x = 0
    · exact .inl h0
    · right
      have hp : 0 < mag (rung x) := by
        have := mag_mono (show 0 < rung x by omega)
        omega
      unfold key at h3
      rw [hr] at h3
      cases b <;> cases hn : neg x <;> cases hn' : neg x' <;> simp [hn, hn'] at h3 ⊢ <;> omega

theorem signed_zero (s : Bool) (e : Nat) : Ieee.signed s 0 e = 0 := by
  rw [signed_eq]
  cases s <;> simp

theorem signed_not (s : Bool) (m e : Nat) : Ieee.signed (!s) m e = - Ieee.signed s m e := by
  rw [signed_eq, signed_eq]
  cases s <;> simp

theorem signed_rel {b : Bool} {s s' : Bool} {m e : Nat} (h : m = 0 ∨ s' = (b ^^ s)) : Ieee.signed s' m e = if b then - Ieee.signed s m e else Ieee.signed s m e := by
  rcases h with rfl | rfl
  · rw [signed_zero, signed_zero]; cases b <;> simp
  · cases b
    · simp
    · simp only [Bool.true_bne, if_true]
      exact signed_not s m e

theorem mant_zero : mant 0 = 0 := by decide

theorem rung_word (g : Bool) {R : Nat} (h : R < 9223372036854775808) : rung (Ieee.double.word g R) = R ∧ neg (Ieee.double.word g R) = g := by
  unfold Ieee.Format.word rung neg
  rw [lit_sign]
  cases g
  · simp only [Bool.false_eq_true, if_false]
    refine ⟨by omega, ?_⟩
    have : R / 9223372036854775808 = 0 := by omega
    rw [this]; rfl
  · simp only [if_true]
    refine ⟨by omega, ?_⟩
    have : (9223372036854775808 + R) / 9223372036854775808 = 1 := by omega
    rw [this]; rfl

/-- The rung that a number is written to: it does not hang on the sign. -/
def toRung (m : Nat) (p : Int) : Nat := Ieee.double.nearest false m p

theorem word_plus (f : Ieee.Format) (Q : Nat) : f.word false Q = Q := rfl
theorem gen_le (f : Ieee.Format) (m : Nat) (p : Int) : f.nearest false m p ≤ f.infRung := by
  unfold Ieee.Format.nearest
  by_cases h : m = 0
  · rw [if_pos h, word_plus]
    exact Nat.zero_le _
  · rw [if_neg h]
    simp only [word_plus]
    exact Nat.min_le_right _ _
theorem cut_even (g : Bool) (n d : Nat) : Ieee.Toward.even.cut g n d = Ieee.Toward.even.cut false n d := by
  unfold Ieee.Toward.cut
  rfl
theorem gen_word (f : Ieee.Format) (g : Bool) (m : Nat) (p : Int) : f.nearest g m p = f.word g (f.nearest false m p) := by
  unfold Ieee.Format.nearest
  by_cases h : m = 0
  · rw [if_pos h, if_pos h, word_plus]
  · rw [if_neg h, if_neg h]
    simp only [word_plus, cut_even g]
theorem gen_zero (f : Ieee.Format) (p : Int) : f.nearest false 0 p = 0 := by
  unfold Ieee.Format.nearest
  rw [if_pos rfl, word_plus]

theorem nearest_word (g : Bool) (m : Nat) (p : Int) : Ieee.double.nearest g m p = Ieee.double.word g (toRung m p) ∧ toRung m p ≤ 9218868437227405312 :=
  ⟨gen_word _ g m p, Nat.le_trans (gen_le _ m p) (Nat.le_of_eq lit_inf)⟩

theorem toRung_zero (p : Int) : toRung 0 p = 0 := gen_zero _ p

/-- A number written: its key. -/
theorem key_write (g : Bool) (m : Nat) (p : Int) : isNum (Ieee.double.write (.number g m p)) ∧ key (Ieee.double.write (.number g m p)) = if g then -(mag (toRung m p) : Int) else (mag (toRung m p) : Int) := by
  obtain ⟨h1, h2⟩ := nearest_word g m p
  show isNum (Ieee.double.nearest g m p) ∧ _
  have h3 : Ieee.double.write (.number g m p) = Ieee.double.nearest g m p := rfl
  rw [h3, h1]
  obtain ⟨h4, h5⟩ := rung_word g (R := toRung m p) (by omega)
  unfold isNum key
  rw [h4, h5]
  exact ⟨h2, rfl⟩

theorem key_inf (g : Bool) : isNum (Ieee.double.write (.infinity g)) ∧ key (Ieee.double.write (.infinity g)) = if g then -(mag 9218868437227405312 : Int) else (mag 9218868437227405312 : Int) := by
  have h3 : Ieee.double.write (.infinity g) = Ieee.double.word g 9218868437227405312 := by
    show Ieee.double.word g Ieee.double.infRung = _
    rw [lit_inf]
  rw [h3]
  obtain ⟨h4, h5⟩ := rung_word g (R := 9218868437227405312) (by omega)
  unfold isNum key
  rw [h4, h5]
  exact ⟨Nat.le_refl _, rfl⟩

/-- What a word stands for, in three kinds. -/
theorem kinds (x : Nat) : (¬ isNum x ∧ ∃ s t, Ieee.double.read x = .nan s t) ∨ (isNum x ∧ rung x = 9218868437227405312 ∧ Ieee.double.read x = .infinity (neg x)) ∨
    (isNum x ∧ rung x < 9218868437227405312 ∧ Ieee.double.read x = .number (neg x) (mant (rung x)) (-1074 + (expo (rung x) : Int))) := by
  unfold isNum
  rcases Nat.lt_trichotomy (rung x) 9218868437227405312 with h | h | h
  · exact .inr (.inr ⟨by omega, h, read_num h⟩)
  · exact .inr (.inl ⟨by omega, h, read_inf h⟩)
  · exact .inl ⟨by omega, read_nan h⟩

/-- The datum of a figure that is equal (or opposite) to one that is a number. -/
theorem Rel.read {b : Bool} {x x' : Nat} (h : Rel b x x') :
    ((∃ s t, Ieee.double.read x = .nan s t) ∧ ∃ s t, Ieee.double.read x' = .nan s t) ∨
    (∃ s, Ieee.double.read x = .infinity s ∧ Ieee.double.read x' = .infinity (b ^^ s)) ∨
    (∃ s s' m e, Ieee.double.read x = .number s m (-1074 + (e : Nat)) ∧ Ieee.double.read x' = .number s' m (-1074 + (e : Nat)) ∧ (m = 0 ∨ s' = (b ^^ s))) := by
  rcases kinds x with ⟨kx, ex⟩ | ⟨kx, rx, ex⟩ | ⟨kx, rx, ex⟩
  · left
    have kx' : ¬ isNum x' := by rcases h with h | h; exact h.2; exact absurd h.1 kx
    rcases kinds x' with ⟨_, ex'⟩ | ⟨k, _⟩ | ⟨k, _⟩
    · exact ⟨ex, ex'⟩
    · exact absurd k kx'
    · exact absurd k kx'
  · right; left
    obtain ⟨kx', rx', sx⟩ := h.parts kx
    refine ⟨neg x, ex, ?_⟩
    rw [read_inf (rx'.trans rx)]
    rcases sx with h0 | h0
    · omega
    · rw [h0]
  · right; right
    obtain ⟨kx', rx', sx⟩ := h.parts kx
    refine ⟨neg x, neg x', mant (rung x), expo (rung x), ex, by rw [read_num (by omega), rx'], ?_⟩
    rcases sx with h0 | h0
    · left; rw [h0]; exact mant_zero
    · exact .inr h0

/-- Two words written of equal (or opposite) numbers. -/
theorem rel_write {b : Bool} {g g' : Bool} {m : Nat} {p : Int} (h : m = 0 ∨ g' = (b ^^ g)) : Rel b (Ieee.double.write (.number g m p)) (Ieee.double.write (.number g' m p)) := by
  obtain ⟨h1, h2⟩ := key_write g m p
  obtain ⟨h3, h4⟩ := key_write g' m p
  refine .inr ⟨h1, h3, ?_⟩
  rw [h2, h4]
  rcases h with rfl | rfl
  · rw [toRung_zero, mag_zero]; cases b <;> cases g <;> cases g' <;> rfl
  · cases b <;> cases g <;> simp

theorem rel_inf {b : Bool} (g : Bool) : Rel b (Ieee.double.write (.infinity g)) (Ieee.double.write (.infinity (b ^^ g))) := by
  obtain ⟨h1, h2⟩ := key_inf g
  obtain ⟨h3, h4⟩ := key_inf (b ^^ g)
  refine .inr ⟨h1, h3, ?_⟩
  rw [h2, h4]
  cases b <;> cases g <;> simp

/-- Two results of which both are NaN, or both are written. -/
def Pair (b : Bool) (o o' : Option Ieee.Datum) : Prop :=
  (o = none ∧ o' = none) ∨ (∃ g, o = some (.infinity g) ∧ o' = some (.infinity (b ^^ g))) ∨ (∃ g g' m p, o = some (.number g m p) ∧ o' = some (.number g' m p) ∧ (m = 0 ∨ g' = (b ^^ g)))

theorem Pair.rel {b : Bool} {o o' : Option Ieee.Datum} (h : Pair b o o') {s s' : Nat} (hs : o.map Ieee.double.write = some s ∨ (o.map Ieee.double.write = none ∧ ¬ isNum s)) (hs' : o'.map Ieee.double.write = some s' ∨ (o'.map Ieee.double.write = none ∧ ¬ isNum s')) : Rel b s s' := by
  rcases h with ⟨rfl, rfl⟩ | ⟨g, rfl, rfl⟩ | ⟨g, g', m, p, rfl, rfl, h⟩
  · rcases hs with h | h
    · cases h
    rcases hs' with h' | h'
    · cases h'
    exact .inl ⟨h.2, h'.2⟩
  · rcases hs with h | h
    · rcases hs' with h' | h'
      · simp only [Option.map_some, Option.some.injEq] at h h'
        subst h h'
        exact rel_inf g
      · cases h'.1
    · cases h.1
  · rcases hs with h1 | h1
    · rcases hs' with h' | h'
      · simp only [Option.map_some, Option.some.injEq] at h1 h'
        subst h1 h'
        exact rel_write h
      · cases h'.1
    · cases h1.1

theorem sum_pair {b : Bool} {s s' t t' : Bool} {m n e f : Nat} (h1 : m = 0 ∨ s' = (b ^^ s)) (h2 : n = 0 ∨ t' = (b ^^ t)) :
    Pair b (Ieee.Datum.sum (.number s m (-1074 + (e : Nat))) (.number t n (-1074 + (f : Nat)))) (Ieee.Datum.sum (.number s' m (-1074 + (e : Nat))) (.number t' n (-1074 + (f : Nat)))) := by
  unfold Ieee.Datum.sum
  simp only
  rw [signed_rel h1, signed_rel h2]
  generalize Ieee.signed s m _ = u
  generalize Ieee.signed t n _ = v
  right; right
  have hab : ((if b then -u else u) + (if b then -v else v)).natAbs = (u + v).natAbs := by cases b <;> simp <;> omega
  rw [hab]
  refine ⟨_, _, _, _, rfl, rfl, ?_⟩
  by_cases h0 : u + v = 0
  · left; omega
  · right
    cases b
    · simp [h0]
    · have h0' : ¬ (-u + -v = 0) := by omega
      simp only [if_true, if_neg h0, if_neg h0', Bool.true_xor]
      by_cases hlt : u + v < 0
      · have : ¬ (-u + -v < 0) := by omega
        simp [hlt, this]
      · have : -u + -v < 0 := by omega
        simp [hlt, this]

/-- The sums of equal (or of opposite) figures are equal (or opposite). -/
theorem AddTo.rel {b : Bool} {x x' y y' s s' : Nat} (hx : Rel b x x') (hy : Rel b y y') (hs : AddTo x y s) (hs' : AddTo x' y' s') : Rel b s s' := by
  unfold AddTo Ieee.Format.add at hs hs'
  refine Pair.rel ?_ hs hs'
  rcases hx.read with ⟨⟨_, _, e1⟩, _, _, e2⟩ | ⟨g, e1, e2⟩ | ⟨g, g', m, e, e1, e2, hm⟩
  · rw [e1, e2]
    exact .inl ⟨rfl, rfl⟩
  · rw [e1, e2]
    rcases hy.read with ⟨⟨_, _, f1⟩, _, _, f2⟩ | ⟨k, f1, f2⟩ | ⟨k, k', n, f, f1, f2, hn⟩
    · rw [f1, f2]
      exact .inl ⟨rfl, rfl⟩
    · rw [f1, f2]
      cases g <;> cases k <;> cases b <;> simp [Ieee.Datum.sum, Pair]
    · rw [f1, f2]
      exact .inr (.inl ⟨g, rfl, rfl⟩)
  · rw [e1, e2]
    rcases hy.read with ⟨⟨_, _, f1⟩, _, _, f2⟩ | ⟨k, f1, f2⟩ | ⟨k, k', n, f, f1, f2, hn⟩
    · rw [f1, f2]
      exact .inl ⟨rfl, rfl⟩
    · rw [f1, f2]
      exact .inr (.inl ⟨k, rfl, rfl⟩)
    · rw [f1, f2]
      exact sum_pair hm hn

theorem read_two : Ieee.double.read two = .number false 4503599627370496 (-1074 + ((1023 : Nat) : Int)) := by
  have h : rung two = 4611686018427387904 := by decide
  have h2 := read_num (x := two) (by rw [h]; decide)
  rw [h] at h2
  rw [h2]
  decide

theorem quo_zero (d n : Nat) : 2 * (0 <<< d / n) + (0 <<< d % n != 0).toNat = 0 := by
  rw [Nat.zero_shiftLeft]
  simp

/-- The halves of equal (or opposite) figures are equal (or opposite). -/
theorem HalfTo.rel {b : Bool} {x x' s s' : Nat} (hx : Rel b x x') (hs : HalfTo x s) (hs' : HalfTo x' s') : Rel b s s' := by
  unfold HalfTo Ieee.Format.div at hs hs'
  rw [read_two] at hs hs'
  refine Pair.rel ?_ hs hs'
  rcases hx.read with ⟨⟨_, _, e1⟩, _, _, e2⟩ | ⟨g, e1, e2⟩ | ⟨g, g', m, e, e1, e2, hm⟩
  · rw [e1, e2]
    exact .inl ⟨rfl, rfl⟩
  · rw [e1, e2]
    refine .inr (.inl ⟨g, ?_, ?_⟩)
    · simp [Ieee.Datum.quotient]
    · simp [Ieee.Datum.quotient]
  · rw [e1, e2]
    unfold Ieee.Datum.quotient
    simp only [show ¬ (4503599627370496 = 0) by omega, if_false]
    refine .inr (.inr ⟨_, _, _, _, rfl, rfl, ?_⟩)
    rcases hm with rfl | rfl
    · left; exact quo_zero _ _
    · right; simp

theorem sum_comm (x y : Ieee.Datum) : x.sum y = y.sum x := by
  cases x <;> cases y <;> simp only [Ieee.Datum.sum]
  · rename_i s m i t n j
    simp only [Int.min_comm i j]
    rw [Int.add_comm, Bool.and_comm]
  · rename_i s t
    cases s <;> cases t <;> simp

theorem AddTo.comm {x y s : Nat} (h : AddTo x y s) : AddTo y x s := by
  unfold AddTo Ieee.Format.add at *
  rw [sum_comm]
  exact h

/-- The medians of equal (or opposite) middle figures are equal (or opposite). -/
theorem MedOf.rel {b : Bool} {x x' y y' m m' : Nat} (hx : Rel b x x') (hy : Rel b y y') (h : MedOf x y m) (h' : MedOf x' y' m') : Rel b m m' := by
  obtain ⟨s, h1, h2⟩ := h
  obtain ⟨s', h3, h4⟩ := h'
  exact HalfTo.rel (AddTo.rel hx hy h1 h3) h2 h4

theorem MedOf.comm {x y m : Nat} (h : MedOf x y m) : MedOf y x m := by
  obtain ⟨s, h1, h2⟩ := h
  exact ⟨s, h1.comm, h2⟩

/-! ### Go's own equality of the law, and the minus -/

/-- zzSame. -/
def sameF (x y : Nat) : Bool := ord x y == some .eq || (nanF x && nanF y)

theorem sameF_iff (x y : Nat) : sameF x y = true ↔ Rel false x y := by
  unfold sameF Rel
  by_cases hx : isNum x <;> by_cases hy : isNum y
  · rw [order_num hx hy, nanF_no hx, nanF_no hy]
    simp [hx, hy]
    omega
  · rw [order_nan (.inr hy), nanF_no hx, nanF_yes hy]
    simp [hx, hy]
  · rw [order_nan (.inl hx), nanF_yes hx, nanF_no hy]
    simp [hx, hy]
  · rw [order_nan (.inl hx), nanF_yes hx, nanF_yes hy]
    simp [hx, hy]

theorem rel_iff_lt (x y : Nat) : Rel false x y ↔ ltF x y = false ∧ ltF y x = false := by
  rw [ltF_false, ltF_false]
  unfold Rel
  by_cases hx : isNum x <;> by_cases hy : isNum y <;> simp [hx, hy] <;> omega

/-- The model's minus. -/
def negF (x : Nat) : Nat := x ^^^ 9223372036854775808

theorem rung_negF (x : Nat) : rung (negF x) = rung x := by
  unfold rung negF
  have h := Nat.xor_mod_two_pow (a := x) (b := 9223372036854775808) (n := 63)
  rw [show (2 : Nat) ^ 63 = 9223372036854775808 from rfl] at h
  rw [h]
  simp

theorem neg_negF (x : Nat) : neg (negF x) = !neg x := by
  unfold neg negF
  have h := Nat.xor_div_two_pow (a := x) (b := 9223372036854775808) (n := 63)
  rw [show (2 : Nat) ^ 63 = 9223372036854775808 from rfl] at h
  rw [h]
  have e : 9223372036854775808 / 9223372036854775808 = 1 := by decide
  rw [e]
  have h2 := Nat.xor_mod_two_pow (a := x / 9223372036854775808) (b := 1) (n := 1)
  rw [show (2 : Nat) ^ 1 = 2 from rfl] at h2
  rw [h2]
  rcases Nat.mod_two_eq_zero_or_one (x / 9223372036854775808) with h3 | h3 <;> rw [h3] <;> rfl

theorem rel_negF (x : Nat) : Rel true x (negF x) := by
  by_cases h : isNum x
  · refine .inr ⟨h, by unfold isNum at *; rw [rung_negF]; exact h, ?_⟩
    unfold key
    rw [rung_negF, neg_negF]
    cases neg x <;> simp
  · exact .inl ⟨h, by unfold isNum at *; rw [rung_negF]; exact h⟩

theorem Rel.symm {b : Bool} {x y : Nat} (h : Rel b x y) : Rel b y x := by
  rcases h with ⟨h1, h2⟩ | ⟨h1, h2, h3⟩
  · exact .inl ⟨h2, h1⟩
  · exact .inr ⟨h2, h1, by rw [h3]; cases b <;> simp⟩

theorem Rel.trans {b c : Bool} {x y z : Nat} (h : Rel b x y) (k : Rel c y z) : Rel (b ^^ c) x z := by
  rcases h with ⟨h1, h2⟩ | ⟨h1, h2, h3⟩ <;> rcases k with ⟨k1, k2⟩ | ⟨k1, k2, k3⟩
  · exact .inl ⟨h1, k2⟩
  · exact absurd k1 h2
  · exact absurd h2 k1
  · exact .inr ⟨h1, k2, by rw [k3, h3]; cases b <;> cases c <;> simp⟩

theorem Rel.refl (x : Nat) : Rel false x x := by
  by_cases h : isNum x
  · exact .inr ⟨h, h, by simp⟩
  · exact .inl ⟨h, h⟩
end Go.Proofs.Qxb6619252a
