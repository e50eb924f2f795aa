import Derived.Test.Qxb6619252aRank
import Derived.Laws.CopyOwn
import Derived.WalkSpells
import Derived.Deep.QuietTactic
import Derived.BigQuiet
namespace Go.Proofs.Qxb6619252a
open Go.RowKit
attribute [local go_sem] run_store_float

/-- Go's '<=' on figures. -/
def leF (x y : Nat) : Bool := ord x y == some .lt || ord x y == some .eq

theorem leF_iff (x y : Nat) : leF x y = true ↔ isNum x ∧ isNum y ∧ key x ≤ key y := by
  unfold leF
  by_cases hx : isNum x <;> by_cases hy : isNum y
  · rw [order_num hx hy]
    simp [hx, hy, Int.compare_eq_lt]
    omega
  · rw [order_nan (.inr hy)]
    simp [hy]
  · rw [order_nan (.inl hx)]
    simp [hx]
  · rw [order_nan (.inl hx)]
    simp [hx]

theorem ltF_of_le {x y : Nat} (h : leF x y = true) : ltF y x = false := by
  rw [leF_iff] at h
  rw [ltF_false]
  exact .inr ⟨h.2.1, h.1, h.2.2⟩

set_option maxHeartbeats 400000 in
theorem zzSame_any (x y : Nat) (w : World) : Calls Try.prog 11 #[.float .f64 x, .float .f64 y] w fun e w' => e = .returned (.bool (sameF x y)) ∧ w' = w := by
  have hs : sameF x y = (FloatKind.f64.format.order x y == some .eq || ((FloatKind.f64.format.order x x != some .eq) && (FloatKind.f64.format.order y y != some .eq))) := rfl
  rw [hs]
  clear hs
  by_cases h1 : FloatKind.f64.format.order x y = some .eq <;> by_cases h2 : FloatKind.f64.format.order x x = some .eq
  all_goals
    go_enter Try.func11, Try.ntmps11
    go_wp2
    go_ret
    exact ⟨by simp [h1, h2], rfl⟩

theorem zzBytes4_any (v : Value) (p : Option Addr) (n c : Nat) (x y : Nat) (i j : Int) (hv : v = .slice p n c) (w : World) : Calls Try.prog 10 #[v, .float .f64 x, .float .f64 y, .int .i64 i, .int .i64 j] w fun e w' => (∃ b : Bool, e = .returned (.bool b)) ∧ w' = w := by
  subst hv
  by_cases hn : n ≤ 1048576
  · go_enter Try.func10, Try.ntmps10
    go_wp2
    go_ret
    exact ⟨⟨true, rfl⟩, rfl⟩
  · go_enter Try.func10, Try.ntmps10
    go_wp2
    go_ret
    exact ⟨⟨false, rfl⟩, rfl⟩

theorem zzBytes3_any (v : Value) (p : Option Addr) (n c : Nat) (i : Int) (hv : v = .slice p n c) (w : World) : Calls Try.prog 6 #[v, .int .i64 i] w fun e w' => (∃ b : Bool, e = .returned (.bool b)) ∧ w' = w := by
  subst hv
  by_cases hn : n ≤ 1048576
  · go_enter Try.func6, Try.ntmps6
    go_wp2
    go_ret
    exact ⟨⟨true, rfl⟩, rfl⟩
  · go_enter Try.func6, Try.ntmps6
    go_wp2
    go_ret
    exact ⟨⟨false, rfl⟩, rfl⟩

theorem zzBytes5_any (v : Value) (p : Option Addr) (n c : Nat) (hv : v = .slice p n c) (w : World) : Calls Try.prog 12 #[v] w fun e w' => (∃ b : Bool, e = .returned (.bool b)) ∧ w' = w := by
  subst hv
  by_cases hn : n ≤ 1048576
  · go_enter Try.func12, Try.ntmps12
    go_wp2
    go_ret
    exact ⟨⟨true, rfl⟩, rfl⟩
  · go_enter Try.func12, Try.ntmps12
    go_wp2
    go_ret
    exact ⟨⟨false, rfl⟩, rfl⟩

/-- Figures behind a slice value (or none). -/
def IsFigs (w : World) (p : Option Addr) (zs : List Nat) : Prop :=
  zs = [] ∨ ∃ b o, p = some ⟨b, o, none⟩ ∧ ∀ j, j < zs.length → w.cell? ⟨b, o + j, none⟩ = some (.float .f64 (fig zs j))

theorem cell_lt {w : World} {a : Addr} {v : Value} (h : w.cell? a = some v) : a.block < w.heap.size := by
  unfold World.cell? at h
  rcases Nat.lt_or_ge a.block w.heap.size with h1 | h1
  · exact h1
  · rw [Array.getElem?_eq_none h1] at h
    simp at h

theorem keepsB {w w' : World} (h : Below w.heap.size w w') : ∀ a v, w.cell? a = some v → w'.cell? a = some v := fun _ _ hv => by
  rw [h.cell (cell_lt hv)]; exact hv

theorem below_drewN {B : Nat} {a w : World} (h : Below B a w) (n : Nat) : Below B a (w.drewN n) := h.trans ⟨rfl, rfl, rfl, Nat.le_refl _, fun _ _ => rfl⟩

theorem fig_get {zs : List Nat} {j : Nat} : fig zs j = zs[j]?.getD 0 := rfl

theorem IsFigs.figs {w : World} {p : Option Addr} {zs : List Nat} (h : IsFigs w p zs) : Figs w.heap.size w p zs := by
  rcases h with h | ⟨b, o, rfl, h⟩
  · exact .inl h
  · cases zs with
    | nil => exact .inl rfl
    | cons a l =>
      refine .inr ⟨b, o, rfl, ?_, fun j hj => h j hj⟩
      exact cell_lt (h 0 (by simp))

/-- A row of the call's own that owns these figures holds them. -/
theorem own_figs {w : World} {base g cap : Nat} {zs : List Nat} (h : w.ownsRow base 24 1 (.slice (some ⟨g, 0, none⟩) zs.length cap) zs.length (zs.map encF)) : IsFigs w (some ⟨g, 0, none⟩) zs := by
  refine .inr ⟨g, 0, rfl, fun j hj => ?_⟩
  rw [Nat.zero_add, h.cellAt j (by omega)]
  unfold fig
  simp [List.getD, hj]

theorem IsFigs.keep {w w' : World} {p : Option Addr} {zs : List Nat} (h : IsFigs w p zs) (hb : Below w.heap.size w w') : IsFigs w' p zs := by
  rcases h with h | ⟨b, o, rfl, h⟩
  · exact .inl h
  · exact .inr ⟨b, o, rfl, fun j hj => keepsB hb _ _ (h j hj)⟩

/-- Behind the copy. -/
theorem copied {w : World} {g base : Nat} {cur : List Value} {zs : List Nat} (hg : w.heap[g]? = some (.cells (splice cur 0 (zs.map encF)).toArray 24 (0, 0))) (hl : cur.length = zs.length) (hb : base ≤ g) (hm : zs.length ≤ maxLen) :
    w.ownsRow base 24 1 (.slice (some ⟨g, 0, none⟩) zs.length zs.length) zs.length (zs.map encF) := by
  have e : splice cur 0 (zs.map encF) = zs.map encF := by
    unfold splice
    simp [hl]
  rw [e] at hg
  exact ⟨by simp, .inr ⟨g, zs.length, _, rfl, hb, hg, Nat.le_refl _, hm, by simp, by simp [List.take_of_length_le]⟩⟩

theorem own_block {w : World} {base g n : Nat} {xs : List Value} (h : w.ownsRow base 24 1 (.slice (some ⟨g, 0, none⟩) n n) n xs) : ∃ cur : List Value, w.heap[g]? = some (.cells cur.toArray 24 (0, 0)) ∧ cur.length = n := by
  rcases h.2 with ⟨e, _⟩ | ⟨g', cap, cur, e, _, hg, _, _, hs, _⟩
  · cases e
  · cases e
    exact ⟨cur.toList, by simpa using hg, by simpa using hs⟩

theorem figs_src {w : World} {x : Addr} {zs : List Nat} (h : IsFigs w (some x) zs) : ∀ j v, (zs.map encF)[j]? = some v → w.cell? (x.add j) = some v := by
  intro j v hv
  have hj : j < zs.length := by
    have := (List.getElem?_eq_some_iff.1 hv).1
    simpa using this
  rcases h with rfl | ⟨b, o, e, h⟩
  · simp at hj
  · cases e
    rw [Addr.add_lit, h j hj]
    unfold fig
    simp [hj] at hv
    subst hv
    simp [List.getD, hj]

/-- Stands at a copy alone: a guard for the walk. -/
theorem at_copy {P : Program} {w : World} {ops : Array Oper} {rest : List Oper} {o : Oper} {a : Act} {Q : Exit → Act → World → Prop} (d s : Operand) (dT sT : TypeId)
    (_ : o.op = .call { callee := .builtin .copy, args := #[d, s], argTypes := #[dT, sT] }) (h : wpList P ops Q (o :: rest) a w) : wpList P ops Q (o :: rest) a w := h

theorem Try.size24 : (Try.prog.info? 24).map (·.size) = some 1 := by kernel_rfl

theorem one_float (x : Nat) : ∀ u ∈ [Value.float .f64 x], u.oneCell' = true := by
  intro u hu; simp at hu; subst hu; rfl

theorem all_float (zs : List Nat) : ∀ u ∈ zs.map encF, u.oneCell' = true := by
  intro u hu
  simp at hu
  obtain ⟨x, _, rfl⟩ := hu
  rfl

theorem app_below {W0 wr w2 : World} {o : Obj} {g : Nat} (h : Below W0.heap.size W0 wr) (hg : (wr.alloc o).grownBy w2 (some g)) (hle : W0.heap.size ≤ g) : Below W0.heap.size W0 w2 :=
  (h.alloc h.size o).grown hg (by have := h.size; simp; omega) (fun k hk => by cases hk; exact hle)

/-- The list with x put in at place j. -/
def putIn (l : List Nat) (j x : Nat) : List Nat := l.take j ++ [x] ++ l.drop j

theorem putIn_length {l : List Nat} {j x : Nat} (h : j ≤ l.length) : (putIn l j x).length = l.length + 1 := by
  unfold putIn; simp; omega

theorem putIn_lo {l : List Nat} {j x k : Nat} (hk : k < j) (hj : j ≤ l.length) : fig (putIn l j x) k = fig l k := by
  unfold putIn fig
  rw [List.append_assoc]
  simp only [List.getD]
  rw [List.getElem?_append_left (by simp; omega)]
  simp [hk]

theorem putIn_at {l : List Nat} {j x : Nat} (hj : j ≤ l.length) : fig (putIn l j x) j = x := by
  unfold putIn fig
  have e : (l.take j).length = j := by simp; omega
  simp [List.getD, e]

theorem putIn_hi {l : List Nat} {j x k : Nat} (hj : j ≤ k) (hl : j ≤ l.length) : fig (putIn l j x) (k + 1) = fig l k := by
  unfold putIn fig
  have e : (l.take j).length = j := by simp; omega
  simp only [List.getD, List.getElem?_append, e]
  simp [e, show ¬ k + 1 < j + 1 by omega, List.getElem?_drop]
  congr 2
  omega

theorem putIn_perm (l : List Nat) (j x : Nat) : (putIn l j x).Perm (x :: l) := by
  unfold putIn
  have h1 : (l.take j ++ [x] ++ l.drop j).Perm (x :: (l.take j ++ l.drop j)) := by
    rw [List.append_assoc]
    exact List.perm_middle
  rwa [List.take_append_drop] at h1

theorem take_snoc {l : List Nat} {k : Nat} (h : k < l.length) : l.take k ++ [fig l k] = l.take (k + 1) := by
  unfold fig
  rw [List.take_succ_eq_append_getElem h]
  simp [List.getD, List.getElem?_eq_getElem h]

theorem map_snoc {l : List Nat} {k : Nat} (h : k < l.length) : (l.take k).map encF ++ [.float .f64 (fig l k)] = (l.take (k + 1)).map encF := by
  rw [← take_snoc h]; simp

/-- The first k figures, as cells. -/
def cellsTo (l : List Nat) (k : Nat) : List Value := (l.take k).map encF
theorem cellsTo_zero (l : List Nat) : cellsTo l 0 = [] := rfl
theorem cellsTo_snoc {l : List Nat} {k x : Nat} (h : k < l.length) (hx : fig l k = x) : cellsTo l k ++ [.float .f64 x] = cellsTo l (k + 1) := by
  subst hx; exact map_snoc h
theorem cellsTo_all {l : List Nat} {n : Nat} (h : n = l.length) : cellsTo l n = l.map encF := by
  subst h; unfold cellsTo; rw [List.take_length]
theorem cellsTo_figs {w : World} {base g cap n : Nat} {l : List Nat} (hn : n = l.length) (h : w.ownsRow base 24 1 (.slice (some ⟨g, 0, none⟩) n cap) n (cellsTo l n)) : IsFigs w (some ⟨g, 0, none⟩) l := by
  subst hn
  rw [cellsTo_all rfl] at h
  exact own_figs h
theorem IsFigs.at {w : World} {g n k : Nat} {l : List Nat} (h : IsFigs w (some ⟨g, 0, none⟩) l) (hn : n = l.length) (hk : k < n) : w.cell? ⟨g, k, none⟩ = some (.float .f64 (fig l k)) := by
  subst hn
  rcases h with h | ⟨b, o, e, h⟩
  · subst h; simp at hk
  · cases e
    have := h k hk
    rw [Nat.zero_add] at this
    exact this
theorem le_of_walk {x y : Nat} (h : FloatKind.f64.format.order x y = some .lt ∨ FloatKind.f64.format.order x y = some .eq) : leF x y = true := by
  unfold leF ord
  rcases h with h | h <;> simp [show Ieee.double.order x y = _ from h]
theorem le_of_walk' {x y : Nat} (h : (!FloatKind.f64.format.order x y == some .lt) = false ∨ (!FloatKind.f64.format.order x y == some .eq) = false) : leF x y = true :=
  le_of_walk (h.imp (fun h => by simpa using h) (fun h => by simpa using h))
end Go.Proofs.Qxb6619252a
