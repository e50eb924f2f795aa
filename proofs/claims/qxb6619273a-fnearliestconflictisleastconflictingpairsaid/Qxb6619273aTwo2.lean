import Derived.Test.Qxb6619273aTwo
namespace Go.Proofs.Qxb6619273a
open Go.RowKit Go.Maps Go.ChangeShapes Go.MapKept

theorem grown_ad (W : World) (X : Obj) (row : Option Nat) : W.drew.grownBy (W.alloc X).drew row :=
  ⟨rfl, rfl, rfl, (World.grownBy_alloc W X row).size, fun k hk _ => Below.heap_alloc W X k hk⟩

theorem one_start {w : World} {B base : Nat} (h : w.heap[B]? = some (.map #[] 0)) (hb : B < base) : One w B base 0 (fun _ => []) :=
  ⟨.map [], ⟨#[], 0, h, ⟨by simp, stamped_empty 0, by simp⟩, Nat.le_refl _, rfl, hb, by simp, by simp⟩, fun _ => .inl ⟨rfl, rfl⟩⟩

theorem shuns_start {w : World} {B : Nat} (h : w.heap[B]? = some (.map #[] 0)) (No : Nat → Prop) : w.Shuns B No := fun es clock hb x hx => by
  rw [h] at hb
  cases hb
  simp at hx

theorem two_start (w : World) : Two ((w.alloc (.map #[] 0)).alloc (.map #[] 0)) w.heap.size (w.heap.size + 1) (w.heap.size + 2) 0 0 (fun _ => []) (fun _ => []) := by
  have h1 : ((w.alloc (.map #[] 0)).alloc (.map #[] 0)).heap[w.heap.size]? = some (.map #[] 0) := by
    rw [Below.heap_alloc _ _ _ (by simp)]
    exact (MapKept.heap_alloc w _).1
  have h2 : ((w.alloc (.map #[] 0)).alloc (.map #[] 0)).heap[w.heap.size + 1]? = some (.map #[] 0) := by
    have := (MapKept.heap_alloc (w.alloc (.map #[] 0)) (.map #[] 0)).1
    simpa using this
  exact ⟨fun _ => True, one_start h1 (by omega), one_start h2 (by omega), shuns_start h1 _, shuns_start h2 _, by omega⟩

/-- A row of numbers is no block of another type. -/
theorem own_ne {w : World} {base : Nat} {v : Value} {zs : List Int} {A : Nat} {cs : Array Value} {t : TypeId} {fr : Nat × Nat} (ho : w.ownsInts base 3 .i64 v zs) (hA : w.heap[A]? = some (.cells cs t fr)) (ht : t ≠ 3) : v.ownBlock ≠ some A := by
  rcases ho.1.2 with ⟨rfl, _⟩ | ⟨g, cap, cur, rfl, _, hh, _⟩
  · simp [Value.ownBlock]
  · intro e
    simp only [Value.ownBlock, Option.some.injEq] at e
    subst e
    rw [hA] at hh
    simp only [Option.some.injEq, Obj.cells.injEq] at hh
    exact ht hh.2.1

/-- Behind the append: the store, and what has stayed. -/
theorem group_back {w w0 w1 : World} {B1 B2 base n1 n2 : Nat} {f1 f2 : Int → List Int} {it x : Int} {v : Value} (L : Look w B1 B2 base n1 n2 f1 f2 it v) (h0 : w.grownBy w0 v.ownBlock) (hx : (Lit.int .i64 x).wf = true)
    {g cap H : Nat} (hown1 : w1.ownsRow base 3 1 (.slice (some ⟨g, 0, none⟩) ((f1 it).length + 1) cap) ((f1 it).length + 1) ((f1 it).map (Value.int .i64) ++ [.int .i64 x])) (hgrow : w0.grownBy w1 v.ownBlock)
    (hat : v.ownBlock = some g ∨ g = H) (hH : w.heap.size ≤ H) {A : Nat} {cs : Array Value} {t : TypeId} {fr : Nat × Nat} (hA : w.heap[A]? = some (.cells cs t fr)) (ht : t ≠ 3) (hAB : A ≠ B1) :
    ∃ w2, (Instr.mapUpdate 66 (.map (some B1)) (.int .i64 it) (.slice (some ⟨g, 0, none⟩) ((f1 it).length + 1) cap)).run Try.prog w1 = .ok () w2 ∧ Two w2 B1 B2 base (n1 + 1) n2 (upd f1 it (f1 it ++ [x])) f2 ∧
      w1.heap[A]? = some (.cells cs t fr) ∧ w2.heap[A]? = some (.cells cs t fr) ∧ w.heap.size ≤ w2.heap.size ∧ ∀ (B : Nat) (a : World), Below B a w → B ≤ w.heap.size → B ≤ base → B ≤ B1 → Below B a w2 := by
  have hall := h0.trans hgrow
  obtain ⟨w2, r1, r2, r3⟩ := L.back w1 (.slice (some ⟨g, 0, none⟩) ((f1 it).length + 1) cap) x hall (L.own.appended hown1 hx) (by
    rcases hat with h | h
    · exact .inl (by rw [h]; rfl)
    · exact .inr ⟨g, rfl, by omega⟩)
  have hAlt : A < w.heap.size := (Array.getElem?_eq_some_iff.1 hA).1
  have e1 : w1.heap[A]? = some (.cells cs t fr) := (hall.block A hAlt (fun e => own_ne L.own hA ht e.symm)).trans hA
  have e2 : w2.heap[A]? = some (.cells cs t fr) := (r3.block A (Nat.lt_of_lt_of_le hAlt hall.size) (fun e => hAB (by cases e; rfl))).trans e1
  refine ⟨w2, r1, r2, e1, e2, Nat.le_trans hall.size r3.size, fun B a hb hB hBase hB1 => ?_⟩
  exact (hb.grown hall hB (fun j hj => Nat.le_trans hBase (L.own.1.lt j hj).1)).grown r3 (Nat.le_trans hB hall.size) (fun j hj => by cases hj; exact hB1)

/-- A cell out of a block that is known whole. -/
theorem cell_whole {w : World} {A i : Nat} {cs : Array Value} {t : TypeId} {fr : Nat × Nat} {v : Value} (h : w.heap[A]? = some (.cells cs t fr)) (hi : cs[i]? = some v) : w.cell? ⟨A, i, none⟩ = some v := by
  rw [cell_of_row w A i cs t fr h]
  exact hi
end Go.Proofs.Qxb6619273a
