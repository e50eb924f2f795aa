import Derived.Test.Qxb6619273aOps
namespace Go.Proofs.Qxb6619273a
open Go.RowKit Go.Maps Go.ChangeShapes Go.MapKept

/-! ### Two maps of slices, side by side, each of the call's own -/

theorem key3 : Keyed Try.prog 3 := int_keyed Try.underlying3
theorem zero31 (w : World) : (zeroValue 31).run Try.prog w = .ok (.slice none 0 0) w := by kernel_rfl

/-- The map reads as f: at each key the numbers f gives. -/
def Reads (D : DataW Unit) (f : Int → List Int) : Prop :=
  ∀ it : Int, (D.atKey (.int .i64 it) .nil = .nil ∧ f it = []) ∨ D.atKey (.int .i64 it) .nil = .slice (lits .i64 (f it)) []

theorem lits_inj {a b : List Int} (h : lits (H := Unit) .i64 a = lits .i64 b) : a = b := by
  unfold lits at h
  exact (List.map_inj_right (fun x y hxy => by cases hxy; rfl)).1 h

theorem Reads.of {D : DataW Unit} {f : Int → List Int} (h : Reads D f) {it : Int} {w : World} {base : Nat} {v : Value} {zs : List Int} (hat : D.atKey (.int .i64 it) .nil = rowDatum .i64 v zs) (ho : w.ownsInts base 3 .i64 v zs) : zs = f it := by
  rcases ho.datum (H := Unit) with ⟨h1, h2⟩ | h1
  · rw [h1] at hat
    rcases h it with ⟨_, h4⟩ | h3
    · rw [h2, h4]
    · rw [hat] at h3
      cases h3
  · rw [h1] at hat
    rcases h it with ⟨h3, _⟩ | h3
    · rw [hat] at h3
      cases h3
    · rw [hat] at h3
      simp only [DataW.slice.injEq] at h3
      exact lits_inj h3.1

def upd (f : Int → List Int) (it : Int) (zs : List Int) : Int → List Int := fun j => if j = it then zs else f j

theorem Reads.put {D : DataW Unit} {f : Int → List Int} (h : Reads D f) (hD : IsMap D) {it : Int} {w : World} {base : Nat} {v : Value} {zs : List Int} (ho : w.ownsInts base 3 .i64 v zs) (hne : zs ≠ []) : Reads (D.put (.int .i64 it) (rowDatum .i64 v zs)) (upd f it zs) := by
  intro j
  unfold upd
  by_cases hj : j = it
  · subst hj
    rw [if_pos rfl, atKey_put_same hD (by trivial), ho.datum_pos hne]
    exact .inr rfl
  · rw [if_neg hj, atKey_put_other (by simpa using hj)]
    exact h j

def One (w : World) (B base n : Nat) (f : Int → List Int) : Prop := ∃ D : DataW Unit, w.ownsGroups (H := Unit) Try.prog 3 base 3 .i64 B n D ∧ Reads D f

theorem owns_isMap {w : World} {B base n : Nat} {D : DataW Unit} (h : w.ownsGroups (H := Unit) Try.prog 3 base 3 .i64 B n D) : IsMap D := by
  obtain ⟨es, clock, _, _, _, rfl, _⟩ := h
  exact ⟨_, rfl⟩
theorem owns_lt {w : World} {B base n : Nat} {D : DataW Unit} (h : w.ownsGroups (H := Unit) Try.prog 3 base 3 .i64 B n D) : B < w.heap.size ∧ B < base := by
  obtain ⟨es, clock, hb, _, _, _, hbb, _⟩ := h
  exact ⟨(Array.getElem?_eq_some_iff.1 hb).1, hbb⟩

/-- The two maps: their rows lie apart. -/
def Two (w : World) (B1 B2 base n1 n2 : Nat) (f1 f2 : Int → List Int) : Prop :=
  ∃ R : Nat → Prop, One w B1 base n1 f1 ∧ One w B2 base n2 f2 ∧ w.Shuns B1 (fun g => ¬ R g) ∧ w.Shuns B2 R ∧ B1 ≠ B2

theorem Two.swap {w : World} {B1 B2 base n1 n2 : Nat} {f1 f2 : Int → List Int} (h : Two w B1 B2 base n1 n2 f1 f2) : Two w B2 B1 base n2 n1 f2 f1 := by
  obtain ⟨R, h1, h2, h3, h4, h5⟩ := h
  exact ⟨fun g => ¬ R g, h2, h1, fun es clock hb x hx g hg hN => h4 es clock hb x hx g hg (Classical.not_not.1 hN), h3, h5.symm⟩

/-- Over whatever leaves every block that stood as it was. -/
theorem Two.grown {w w' : World} {B1 B2 base n1 n2 : Nat} {f1 f2 : Int → List Int} (h : Two w B1 B2 base n1 n2 f1 f2) (hg : w.grownBy w' none) : Two w' B1 B2 base n1 n2 f1 f2 := by
  obtain ⟨R, ⟨D1, o1, d1⟩, ⟨D2, o2, d2⟩, h3, h4, h5⟩ := h
  have hrow : ∀ (b : Nat) (es : Array MapEntry) (clock : Nat), w.heap[b]? = some (.map es clock) → ∀ x ∈ es.toList, x.val.ownBlock = none ∨ x.val.ownBlock ≠ none := fun b es clock _ x _ => by
    cases x.val.ownBlock <;> simp
  exact ⟨R, ⟨D1, o1.kept hg (by simp) (hrow B1), d1⟩, ⟨D2, o2.kept hg (by simp) (hrow B2), d2⟩, h3.kept hg (owns_lt o1).1 (by simp), h4.kept hg (owns_lt o2).1 (by simp), h5⟩

theorem Two.alloc {w : World} {B1 B2 base n1 n2 : Nat} {f1 f2 : Int → List Int} (h : Two w B1 B2 base n1 n2 f1 f2) (o : Obj) : Two (w.alloc o) B1 B2 base n1 n2 f1 f2 := h.grown (World.grownBy_alloc w o none)
theorem Two.drew {w : World} {B1 B2 base n1 n2 : Nat} {f1 f2 : Int → List Int} (h : Two w B1 B2 base n1 n2 f1 f2) : Two w.drew B1 B2 base n1 n2 f1 f2 := h

/-- What a look-up hands over, and the way back. -/
structure Look (w : World) (B1 B2 base n1 n2 : Nat) (f1 f2 : Int → List Int) (it : Int) (v : Value) : Prop where
  run : (Instr.lookup 66 (.map (some B1)) (.int .i64 it) false).run Try.prog w = .ok v w
  own : w.ownsInts base 3 .i64 v (f1 it)
  len : (f1 it).length ≤ n1
  back : ∀ (w1 : World) (v' : Value) (x : Int), w.grownBy w1 v.ownBlock → w1.ownsInts base 3 .i64 v' (f1 it ++ [x]) → (v'.ownBlock = v.ownBlock ∨ ∃ g, v'.ownBlock = some g ∧ w.heap.size ≤ g) →
    ∃ w2, (Instr.mapUpdate 66 (.map (some B1)) (.int .i64 it) v').run Try.prog w1 = .ok () w2 ∧ Two w2 B1 B2 base (n1 + 1) n2 (upd f1 it (f1 it ++ [x])) f2 ∧ w1.grownBy w2 (some B1)

theorem Two.look {w : World} {B1 B2 base n1 n2 : Nat} {f1 f2 : Int → List Int} (h : Two w B1 B2 base n1 n2 f1 f2) (hn : n1 < maxLen) {it : Int} (hwf : (Lit.int .i64 it).wf = true) : ∃ v, Look w B1 B2 base n1 n2 f1 f2 it v := by
  obtain ⟨R, ⟨D1, o1, d1⟩, ⟨D2, o2, d2⟩, h3, h4, h5⟩ := h
  have hkey : keyOf Try.prog 3 (.int .i64 it) = some (.int .i64 it) := keyOf_int_mk Try.underlying3 hwf
  obtain ⟨v, zs, hrun, hat, hoi, hzl, hback⟩ := o1.at key3 Try.underlying66 (zero31 w) hn hkey
  have hzs := d1.of hat hoi
  subst hzs
  -- the slice's row is one of the first map's
  have hvR : ∀ g, v.ownBlock = some g → R g := by
    obtain ⟨es, clock, hb, F, _⟩ := o1
    rcases Maps.fit_look false key3 Try.underlying66 (zero31 w) hb F hkey with ⟨hrun', _, _⟩ | ⟨e0, y, hm0, _, hrun', _, _, _⟩
    · rw [hrun] at hrun'
      obtain rfl : v = .slice none 0 0 := by simpa using hrun'
      intro g hg'
      cases hg'
    · rw [hrun] at hrun'
      obtain rfl : v = e0.val := by simpa using hrun'
      exact fun g hg' => Classical.not_not.1 (h3 es clock hb e0 hm0 g hg')
  refine ⟨v, hrun, hoi, hzl, fun w1 v' x hgr hown' hloc => ?_⟩
  obtain ⟨w2, hrun2, r1, r2⟩ := hback w1 v' _ hgr hown' (by simp; omega) hloc
  refine ⟨w2, hrun2, ?_, r2⟩
  have hB2 := owns_lt o2
  have hB1 := owns_lt o1
  have hB2v : some B2 ≠ v.ownBlock := fun e1 => by
    have := (hoi.1.lt B2 e1.symm).1
    omega
  have hB1v : some B1 ≠ v.ownBlock := fun e1 => by
    have := (hoi.1.lt B1 e1.symm).1
    omega
  have o2a := o2.kept hgr hB2v (h4.rowsOff hvR)
  have o2b := o2a.kept r2 (fun e1 => h5 (by cases e1; rfl)) (o2a.rowsAbove (fun j hj => by cases hj; exact hB1.2))
  have s2 : w.Shuns B2 (fun g => R g ∨ w.heap.size ≤ g) := h4.reno o2 (fun g hg => hg)
  have s2b : w2.Shuns B2 (fun g => R g ∨ w.heap.size ≤ g) := (s2.kept hgr hB2.1 hB2v).kept r2 (Nat.lt_of_lt_of_le hB2.1 hgr.size) (fun e1 => h5 (by cases e1; rfl))
  refine ⟨fun g => R g ∨ w.heap.size ≤ g, ⟨_, r1, d1.put (owns_isMap o1) hown' (by simp)⟩, ⟨D2, o2b, d2⟩, ?_, s2b, h5⟩
  obtain ⟨es, clock, hb, F, hs, _, hbb, _⟩ := o1
  have hb1 : w1.heap[B1]? = some (.map es clock) := (hgr.block B1 hB1.1 hB1v).trans hb
  obtain ⟨es', clock', hb2, hwho⟩ := stored_who key3 Try.underlying66 hb1 F (Nat.lt_of_le_of_lt hs hn) hkey hrun2
  intro es2 clock2 hb2' y hy g hyg hno
  obtain ⟨rfl, rfl⟩ : es' = es2 ∧ clock' = clock2 := by rw [hb2] at hb2'; simpa using hb2'
  rcases hwho y hy with ⟨hy0, _⟩ | ⟨_, hval⟩
  · exact h3 es clock hb y hy0 g hyg (fun hR => hno (.inl hR))
  · rw [hval] at hyg
    rcases hloc with e1 | ⟨g', e1, e2⟩
    · rw [e1] at hyg
      exact hno (.inl (hvR g hyg))
    · rw [e1] at hyg
      cases hyg
      exact hno (.inr e2)
end Go.Proofs.Qxb6619273a
