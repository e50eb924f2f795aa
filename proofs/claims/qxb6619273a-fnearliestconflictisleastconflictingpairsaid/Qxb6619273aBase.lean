import Derived.Test.Qxb6619273aChecked
import Derived.WalkKit
import Derived.WalkSpells
import Derived.OwnWalk
import Derived.Below
import Derived.Laws.CopyOwn
import Derived.Deep.QuietTactic
import Derived.BigQuiet
namespace Go.Proofs.Qxb6619273a
open Go.RowKit

theorem hide {p : Prop} (h : p) : Hid p := h

theorem cell_lt {w : World} {a : Addr} {v : Value} (h : w.cell? a = some v) : a.block < w.heap.size := by
  unfold World.cell? at h
  rcases Nat.lt_or_ge a.block w.heap.size with h1 | h1
  · exact h1
  · rw [Array.getElem?_eq_none h1] at h
    simp at h

theorem keepsB {w w' : World} (h : Below w.heap.size w w') : ∀ a v, w.cell? a = some v → w'.cell? a = some v := fun _ _ hv => by
  rw [h.cell (cell_lt hv)]; exact hv

theorem below_drewN {B : Nat} {a w : World} (h : Below B a w) (n : Nat) : Below B a (w.drewN n) := h.trans ⟨rfl, rfl, rfl, Nat.le_refl _, fun _ _ => rfl⟩

/-- One-cell values behind a slice's address. -/
def Row (w : World) (p : Option Addr) (vs : List Value) : Prop :=
  vs = [] ∨ ∃ b o, p = some ⟨b, o, none⟩ ∧ ∀ j v, vs[j]? = some v → w.cell? ⟨b, o + j, none⟩ = some v

theorem Row.keep {w w' : World} {p : Option Addr} {vs : List Value} (h : Row w p vs) (hb : Below w.heap.size w w') : Row w' p vs := by
  rcases h with h | ⟨b, o, rfl, h⟩
  · exact .inl h
  · exact .inr ⟨b, o, rfl, fun j v hv => keepsB hb _ _ (h j v hv)⟩

def encI (z : Int) : Value := .int .i64 z
def encU (z : Int) : Value := .int .u64 z
def encB (b : Bool) : Value := .bool b
def encS (s : ByteArray) : Value := .string s

def atI (l : List Int) (j : Nat) : Int := l.getD j 0
def atB (l : List Bool) (j : Nat) : Bool := l.getD j false
def atS (l : List ByteArray) (j : Nat) : ByteArray := l.getD j ByteArray.empty
def atL (l : List (List Int)) (j : Nat) : List Int := l.getD j []

theorem Row.at {α : Type} {w : World} {p : Option Addr} {enc : α → Value} {l : List α} {d : α} {n j : Nat} (h : Row w p (l.map enc)) (hn : n = l.length) (hj : j < n) :
    ∃ b o, p = some ⟨b, o, none⟩ ∧ ∀ j, j < n → w.cell? ⟨b, o + j, none⟩ = some (enc (l.getD j d)) := by
  subst hn
  rcases h with h | ⟨b, o, rfl, h⟩
  · simp at h; subst h; simp at hj
  · refine ⟨b, o, rfl, fun i hi => h i _ ?_⟩
    simp [List.getD, hi]

/-- A list of lists behind a slice of slices. -/
def Grid (w : World) (p : Option Addr) (G : List (List Int)) : Prop :=
  G = [] ∨ ∃ (b o : Nat) (A : Nat → Option Addr) (C : Nat → Nat), p = some ⟨b, o, none⟩ ∧ ∀ j, j < G.length → w.cell? ⟨b, o + j, none⟩ = some (.slice (A j) (atL G j).length (C j)) ∧ Row w (A j) ((atL G j).map encI)

theorem Grid.keep {w w' : World} {p : Option Addr} {G : List (List Int)} (h : Grid w p G) (hb : Below w.heap.size w w') : Grid w' p G := by
  rcases h with h | ⟨b, o, A, C, rfl, h⟩
  · exact .inl h
  · exact .inr ⟨b, o, A, C, rfl, fun j hj => ⟨keepsB hb _ _ (h j hj).1, (h j hj).2.keep hb⟩⟩

set_option maxHeartbeats 4000000 in
set_option maxRecDepth 100000 in
theorem zzBytes_any (p0 p1 p2 p3 p4 p5 : Option Addr) (n0 n1 n2 n3 n4 n5 c0 c1 c2 c3 c4 c5 : Nat) (u v : Int) (ss : List ByteArray) (G : List (List Int)) (w : World)
    (h1 : n1 = ss.length) (h5 : n5 = G.length) (hS : Row w p1 (ss.map encS)) (hG : Grid w p5 G) :
    Calls Try.prog 11 #[.slice p0 n0 c0, .slice p1 n1 c1, .slice p2 n2 c2, .slice p3 n3 c3, .slice p4 n4 c4, .slice p5 n5 c5, .int .i64 u, .int .i64 v] w fun e w' => (∃ b : Bool, e = .returned (.bool b)) ∧ w' = w := by
  have H1 := hide h1
  have H5 := hide h5
  have HS := hide hS
  have HG := hide hG
  clear h1 h5 hS hG
  go_enter Try.func11, Try.ntmps11
  go_wp2_with fail
  any_goals
    go_ret
    exact ⟨⟨false, rfl⟩, rfl⟩
  go_loopw [17, 18] (fun z x wr => ∃ (k : Nat) (t : Int), k ≤ n1 ∧ x = .int .i64 k ∧ z = .int .i64 t ∧ 0 ≤ t ∧ t ≤ 1048576 ∧ wr = w) (fun _ x _ => n1 - (intOf x).toNat)
  case atStart =>
    refine ⟨0, _, Nat.zero_le _, rfl, rfl, ?_, ?_, rfl⟩ <;> omega
  case round =>
    obtain ⟨k, t, hk, rfl, rfl, ht0, ht1, hwr⟩ := hrel
    obtain rfl := hwr.symm
    clear hwr
    by_cases hlt : k < n1
    · obtain ⟨b, o, rfl, hc⟩ := Row.at (d := ByteArray.empty) HS.out H1.out hlt
      have e1 := hc k hlt
      clear hc
      unfold encS at e1
      go_wp2_with fail
      any_goals
        go_ret
        exact ⟨⟨false, rfl⟩, rfl⟩
      exact ⟨⟨k + 1, _, by omega, by go_num, rfl, by omega, by omega, trivial⟩, by simp [intOf]; omega⟩
    · go_wp2_with fail
      any_goals
        go_ret
        exact ⟨⟨false, rfl⟩, rfl⟩
      go_loopw [17, 19] (fun z x wr => ∃ (k : Nat) (t : Int), k ≤ n5 ∧ x = .int .i64 k ∧ z = .int .i64 t ∧ 0 ≤ t ∧ t ≤ 1048576 ∧ wr = w) (fun _ x _ => n5 - (intOf x).toNat)
      case atStart =>
        refine ⟨0, _, Nat.zero_le _, rfl, rfl, ?_, ?_, rfl⟩ <;> omega
      case round =>
        obtain ⟨j, t', hj, rfl, rfl, ht0', ht1', hwr⟩ := hrel
        obtain rfl := hwr.symm
        clear hwr
        by_cases hlt' : j < n5
        · rcases HG.out with h | ⟨b, o, A, C, rfl, h⟩
          · exact absurd hlt' (by rw [H5.out, h]; simp)
          have e1 := (h j (by rw [← H5.out]; exact hlt')).1
          clear h
          go_wp2_with fail
          any_goals
            go_ret
            exact ⟨⟨false, rfl⟩, rfl⟩
          exact ⟨⟨j + 1, _, by omega, by go_num, rfl, by omega, by omega, trivial⟩, by simp [intOf]; omega⟩
        · go_wp2_with fail
          go_ret
          exact ⟨⟨true, rfl⟩, rfl⟩
end Go.Proofs.Qxb6619273a
