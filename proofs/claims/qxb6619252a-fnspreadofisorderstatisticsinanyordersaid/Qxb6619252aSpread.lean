import Derived.Test.Qxb6619252aSorted
import Derived.Laws.FloatArith
import Derived.Deep.RegionHeld3
import Derived.Deep.OwnRows
import Derived.Deep.DrawnRows
import Derived.BigRegion
namespace Go.Proofs.Qxb6619252a
open Go.RowKit Go.Sort
attribute [local go_sem] run_store_float
attribute [local go_sem ↓] Go.wp_at_zero Go.wp_at_succ

/-- The NaN that an operation without an answer gives in this world. -/
def nanAt (w : World) (x y : Nat) : Nat := (Question.nanBits .f64 x y).cut (w.tape w.drawn (.nanBits .f64 x y))

theorem nanAt_nan (w : World) (x y : Nat) : ¬ isNum (nanAt w x y) := by
  unfold nanAt isNum rung
  generalize w.tape w.drawn (.nanBits .f64 x y) = t
  simp only [Question.cut, show (2 : Nat) ^ 63 = 9223372036854775808 from rfl, show (2 : Nat) ^ 52 - 1 = 4503599627370495 from rfl]
  have h1 : t / 2 % 4503599627370495 < 4503599627370495 := Nat.mod_lt _ (by omega)
  generalize t / 2 % 4503599627370495 = u at h1
  rcases Nat.mod_two_eq_zero_or_one t with h | h
  · rw [h]; omega
  · rw [h]; omega

theorem run_add_none {P : Program} (w : World) (t : TypeId) (x y : Nat) (h : Ieee.double.add x y = none) : (binOp .add t (.float .f64 x) (.float .f64 y)).run P w = .ok (.float .f64 (nanAt w x y)) w.drew := by
  have h' : FloatKind.format .f64 = Ieee.double := rfl
  simp [binOp, Op.floatArith, h', h, nanAt, Question.forced]

theorem run_quo_none {P : Program} (w : World) (t : TypeId) (x y : Nat) (h : Ieee.double.div x y = none) : (binOp .quo t (.float .f64 x) (.float .f64 y)).run P w = .ok (.float .f64 (nanAt w x y)) w.drew := by
  have h' : FloatKind.format .f64 = Ieee.double := rfl
  simp [binOp, Op.floatArith, h', h, nanAt, Question.forced]

/-- 2.0 as a word. -/
def two : Nat := 4611686018427387904

/-- s is a sum that Go may give for x + y. -/
def AddTo (x y s : Nat) : Prop := Ieee.double.add x y = some s ∨ (Ieee.double.add x y = none ∧ ¬ isNum s)
/-- m is a quotient that Go may give for s / 2. -/
def HalfTo (s m : Nat) : Prop := Ieee.double.div s two = some m ∨ (Ieee.double.div s two = none ∧ ¬ isNum m)
/-- m is a median that Go may give of the middle figures a and b. -/
def MedOf (a b m : Nat) : Prop := ∃ s, AddTo a b s ∧ HalfTo s m

theorem div_nan {s : Nat} (h : ¬ isNum s) (y : Nat) : Ieee.double.div s y = none := by
  unfold isNum at h
  unfold Ieee.Format.div
  obtain ⟨a, b, e⟩ := read_nan (x := s) (by omega)
  rw [e]
  rfl

theorem far3 {W : World} {b g : Nat} (h : b < g) (v0 v1 v2 : Value) (o : Nat) : (((W.setCell ⟨b, 0, none⟩ v0).setCell ⟨b, 1, none⟩ v1).setCell ⟨b, 2, none⟩ v2).cell? ⟨g, o, none⟩ = W.cell? ⟨g, o, none⟩ := by
  rw [World.cell?_setCell_far _ _ _ _ (by show b ≠ g; omega), World.cell?_setCell_far _ _ _ _ (by show b ≠ g; omega), World.cell?_setCell_far _ _ _ _ (by show b ≠ g; omega)]

theorem row3 {W : World} {b : Nat} (h : W.rowIs b 27 3 (fun _ => .float .f64 0)) (v0 v1 v2 : Value) :
    (((W.setCell ⟨b, 0, none⟩ v0).setCell ⟨b, 1, none⟩ v1).setCell ⟨b, 2, none⟩ v2).cell? ⟨b, 0, none⟩ = some v0 ∧ (((W.setCell ⟨b, 0, none⟩ v0).setCell ⟨b, 1, none⟩ v1).setCell ⟨b, 2, none⟩ v2).cell? ⟨b, 1, none⟩ = some v1 ∧
    (((W.setCell ⟨b, 0, none⟩ v0).setCell ⟨b, 1, none⟩ v1).setCell ⟨b, 2, none⟩ v2).cell? ⟨b, 2, none⟩ = some v2 := by
  have hr := ((h.set 0 v0).set 1 v1).set 2 v2
  exact ⟨hr.cell (by omega), hr.cell (by omega), hr.cell (by omega)⟩

theorem below3 {w W : World} (h : RowKit.Below w.heap.size w W) (v0 v1 v2 : Value) : RowKit.Below w.heap.size w (((W.setCell ⟨w.heap.size, 0, none⟩ v0).setCell ⟨w.heap.size, 1, none⟩ v1).setCell ⟨w.heap.size, 2, none⟩ v2) :=
  ((h.setCell (p := ⟨w.heap.size, 0, none⟩) (Nat.le_refl _) v0).setCell (p := ⟨w.heap.size, 1, none⟩) (Nat.le_refl _) v1).setCell (p := ⟨w.heap.size, 2, none⟩) (Nat.le_refl _) v2

/-- Figure i of the list. -/
def fig (ts : List Nat) (i : Nat) : Nat := ts.getD i 0

def RetSpread (e : Ending) (ts : List Nat) (n : Nat) : Prop := ∃ m, e = .returned (.agg #[.float .f64 m, .float .f64 (fig ts 0), .float .f64 (fig ts (n - 1))]) ∧ MedOf (fig ts ((n - 1) / 2)) (fig ts (n / 2)) m

set_option maxHeartbeats 2000000 in
set_option maxRecDepth 100000 in
theorem spreadOf_any (p : Option Addr) (cap : Nat) (zs : List Nat) (hlen : zs.length ≤ 2097152) (hne : zs ≠ []) (w : World) (hI : Figs w.heap.size w p zs) :
    Calls Try.prog 8 #[.slice p zs.length cap] w fun e w' => RetSpread e (sortedOf zs) zs.length ∧ Below w.heap.size w w' := by
  have hn1 : 1 ≤ zs.length := by cases zs with | nil => exact absurd rfl hne | cons a l => simp
  have hV := fun a len cap w => callsIn_wide.1 (values_in Fence.wide 1 trivial rfl a len cap w)
  have HV := hide hV
  clear hV
  have HI := hide hI
  clear hI
  go_enter Try.func8, Try.ntmps8
  go_wp2_with fail
  refine (HV.out _ _ _ _).mono ?_
  rintro e w1 ⟨rfl, rfl⟩
  obtain ⟨W1, hW1⟩ : ∃ W1, W1 = (w.alloc (.cells #[.float .f64 0, .float .f64 0, .float .f64 0] 27)).alloc (.cells #[.slice p zs.length cap] 22) := ⟨_, rfl⟩
  have hB1 : Below w.heap.size w W1 := by rw [hW1]; exact ((Below.refl _ _).alloc (Nat.le_refl _) _).alloc (by simp) _
  have hz1 : W1.heap.size = w.heap.size + 2 := by rw [hW1]; simp
  have hc1 : W1.cell? ⟨w.heap.size + 1, 0, none⟩ = some (.slice p zs.length cap) := by
    rw [hW1, World.cell?_alloc_at _ _ _ _ (by simp)]; rfl
  have hr0 : W1.rowIs w.heap.size 27 3 (fun _ => .float .f64 0) := by
    rw [hW1]
    refine World.rowIs.alloc ?_ _
    exact World.rowIs_alloc w _ 27 _ (fun i hi => by
      match i, hi with
      | 0, _ => rfl
      | 1, _ => rfl
      | 2, _ => rfl)
  have HS := hide (sorted_any (w.heap.size + 1) p cap zs hlen hne W1 (by rw [hz1]; omega) hc1 (by
    rcases HI.out with h | ⟨b, o, h1, h2, h3⟩
    · exact .inl h
    · exact .inr ⟨b, o, h1, by rw [hz1]; omega, fun j hj => (hB1.cell (p := ⟨b, o + j, none⟩) h2).trans (h3 j hj)⟩))
  go_wp2_with fail
  rw [← hW1]
  clear hW1 HV HI hc1
  refine HS.out.mono ?_
  rintro e W2 ⟨⟨g, cp, rfl, hown⟩, hb2⟩
  have hB2 : Below w.heap.size w W2 := hB1.trans (hb2.mono hB1.size)
  have hr2 : W2.rowIs w.heap.size 27 3 (fun _ => .float .f64 0) := hr0.of_block (hb2.block _ (by rw [hz1]; omega))
  have cells : ∀ j, j < zs.length → W2.cell? ⟨g, j, none⟩ = some (.float .f64 (fig (sortedOf zs) j)) := fun j hj => by
    rw [hown.cellAt j (by omega)]
    have hl := sortedOf_length zs
    unfold fig
    simp [List.getD, hl, hj]
  have hgne : w.heap.size < g := by
    have := (hown.lt g rfl).1
    rw [hz1] at this
    omega
  obtain ⟨n, hn⟩ : ∃ n, n = zs.length := ⟨_, rfl⟩
  rw [← hn] at cells hn1 ⊢
  have hn2 : n ≤ 2097152 := by omega
  have HN := hide hn
  clear hn hlen
  clear hown hb2 hB1 hr0 HS
  have c0 := cells 0 (by omega)
  have c1 := cells (n - 1) (by omega)
  have c2 := cells ((n - 1) / 2) (by omega)
  have c3 := cells (n / 2) (by omega)
  clear cells
  have f0 := hr2.cell (i := 0) (by omega)
  have f1 := hr2.cell (i := 1) (by omega)
  have f2 := hr2.cell (i := 2) (by omega)
  have g0 := hr2.frozen 0
  have g1 := hr2.frozen 1
  have g2 := hr2.frozen 2
  obtain ⟨A, hA⟩ : ∃ A, A = fig (sortedOf zs) ((n - 1) / 2) := ⟨_, rfl⟩
  obtain ⟨B, hB⟩ : ∃ B, B = fig (sortedOf zs) (n / 2) := ⟨_, rfl⟩
  obtain ⟨C, hC⟩ : ∃ C, C = fig (sortedOf zs) 0 := ⟨_, rfl⟩
  obtain ⟨D, hD⟩ : ∃ D, D = fig (sortedOf zs) (n - 1) := ⟨_, rfl⟩
  rw [← hA] at c2
  rw [← hB] at c3
  rw [← hC] at c0
  rw [← hD] at c1
  have HFIN : Hid (∀ m, MedOf A B m → RetSpread (.returned (.agg #[.float .f64 m, .float .f64 C, .float .f64 D])) (sortedOf zs) zs.length) := fun m hm => by
    rw [← HN.out]
    exact ⟨m, by rw [hC, hD], by rw [← hA, ← hB]; exact hm⟩
  have HROW := hide hr2
  have HBB := hide hB2
  clear hA hB hC hD hr2 hB2 hz1
  obtain ⟨k1, hk1⟩ : ∃ k1, k1 = n - 1 := ⟨_, rfl⟩
  obtain ⟨q1, hq1⟩ : ∃ q1, q1 = k1 / 2 := ⟨_, rfl⟩
  obtain ⟨q2, hq2⟩ : ∃ q2, q2 = n / 2 := ⟨_, rfl⟩
  rw [← hk1] at c1
  rw [← hk1, ← hq1] at c2
  rw [← hq2] at c3
  have w1 : IntKind.i64.wrap ((n : Int) - 1) = (k1 : Int) := by rw [IntKind.wrap_i64]; omega
  have w2 : ((k1 : Int)).tdiv 2 = (q1 : Int) := by rw [Int.tdiv_eq_ediv_of_nonneg (by omega)]; omega
  have w3 : ((n : Int)).tdiv 2 = (q2 : Int) := by rw [Int.tdiv_eq_ediv_of_nonneg (by omega)]; omega
  have w4 : IntKind.i64.wrap (q1 : Int) = (q1 : Int) := by rw [IntKind.wrap_i64]; omega
  have w5 : IntKind.i64.wrap (q2 : Int) = (q2 : Int) := by rw [IntKind.wrap_i64]; omega
  have w6 : IntKind.i64.wrap (k1 : Int) = (k1 : Int) := by rw [IntKind.wrap_i64]; omega
  have i1 : 0 < n := by omega
  have i2 : (0 : Int) < (n : Int) := by omega
  have i3 : q1 < n := by omega
  have i4 : q2 < n := by omega
  have i5 : k1 < n := by omega
  have i6 : (q1 : Int) < (n : Int) := by omega
  have i7 : (q2 : Int) < (n : Int) := by omega
  have i8 : (k1 : Int) < (n : Int) := by omega
  clear hk1 hq1 hq2 hn1
  cases hadd : Ieee.double.add A B with
  | none =>
    have rA := fun w => run_add_none (P := Try.prog) w 24 A B hadd
    have rQ := fun w w' => run_quo_none (P := Try.prog) w 24 (nanAt w' A B) 4611686018427387904 (div_nan (nanAt_nan w' A B) _)
    have HM : Hid (∀ w w', MedOf A B (nanAt w (nanAt w' A B) 4611686018427387904)) := fun w w' => ⟨_, .inr ⟨hadd, nanAt_nan w' A B⟩, .inr ⟨div_nan (nanAt_nan w' A B) _, nanAt_nan _ _ _⟩⟩
    clear hadd
    go_wp2_with fail
    go_big_region
    go_wp2_with fail
    obtain ⟨q0, q1', q2'⟩ := row3 HROW.out (.float .f64 (nanAt W2.drew.drew (nanAt W2.drew A B) 4611686018427387904)) (.float .f64 C) (.float .f64 D)
    exact bodyPost_ret (v := .agg #[.float .f64 (nanAt W2.drew.drew (nanAt W2.drew A B) 4611686018427387904), .float .f64 C, .float .f64 D]) (by simp [results, Try.results8, go_sem, q0, q1', q2']) rfl ⟨HFIN.out _ (HM.out _ _), Below.drew (Below.drew (Below.drew (below3 HBB.out _ _ _)))⟩
  | some sm =>
    cases hdiv : Ieee.double.div sm two with
    | none =>
      have HM : Hid (∀ w, MedOf A B (nanAt w sm 4611686018427387904)) := fun w => ⟨sm, .inl hadd, .inr ⟨hdiv, nanAt_nan _ _ _⟩⟩
      have rA := fun w => run_float_arith (P := Try.prog) w .add 24 .f64 A B sm hadd
      have rQ := fun w => run_quo_none (P := Try.prog) w 24 sm 4611686018427387904 hdiv
      clear hadd hdiv
      go_wp2_with fail
      go_big_region
      go_wp2_with fail
      obtain ⟨q0, q1', q2'⟩ := row3 HROW.out (.float .f64 (nanAt W2.drew sm 4611686018427387904)) (.float .f64 C) (.float .f64 D)
      exact bodyPost_ret (v := .agg #[.float .f64 (nanAt W2.drew sm 4611686018427387904), .float .f64 C, .float .f64 D]) (by simp [results, Try.results8, go_sem, q0, q1', q2']) rfl ⟨HFIN.out _ (HM.out _), Below.drew (Below.drew (below3 HBB.out _ _ _))⟩
    | some m =>
      have HM : Hid (MedOf A B m) := ⟨sm, .inl hadd, .inl hdiv⟩
      have rA := fun w => run_float_arith (P := Try.prog) w .add 24 .f64 A B sm hadd
      have rQ := fun w => run_float_arith (P := Try.prog) w .quo 24 .f64 sm 4611686018427387904 m hdiv
      clear hadd hdiv
      go_wp2_with fail
      go_region_held3 (fun x => x.cell? ⟨g, 0, none⟩ = some (.float .f64 C) ∧ x.cell? ⟨g, k1, none⟩ = some (.float .f64 D) ∧ x.cell? ⟨g, q1, none⟩ = some (.float .f64 A) ∧ x.cell? ⟨g, q2, none⟩ = some (.float .f64 B)) (first | exact ⟨c0, c1, c2, c3⟩ | (refine ⟨?_, ?_, ?_, ?_⟩ <;> (simp only [World.cell?_drew]; rw [far3 hgne]; assumption))) (fail)
      go_wp2_with fail
      obtain ⟨q0, q1', q2'⟩ := row3 HROW.out (.float .f64 m) (.float .f64 C) (.float .f64 D)
      exact bodyPost_ret (v := .agg #[(.float .f64 m), .float .f64 C, .float .f64 D]) (by simp [results, Try.results8, go_sem, q0, q1', q2']) rfl ⟨HFIN.out _ HM.out, Below.drew (below3 HBB.out _ _ _)⟩
end Go.Proofs.Qxb6619252a
