import Derived.Test.Qxb6619273aShape
import Derived.Maps.GroupsBeside
import Derived.Deep.RegionHeld3
import Derived.Deep.AppendLies
namespace Go.Proofs.Qxb6619273a
open Go.RowKit

/-- The accesses: three cells each. -/
def Acc (w : World) (p : Option Addr) (N I : List Int) (W : List Bool) (n : Nat) : Prop :=
  n = 0 ∨ ∃ b o, p = some ⟨b, o, none⟩ ∧ ∀ j, j < n → w.cell? ⟨b, o + j * 3, none⟩ = some (.int .i64 (atI N j)) ∧ w.cell? ⟨b, o + j * 3 + 1, none⟩ = some (.int .i64 (atI I j)) ∧ w.cell? ⟨b, o + j * 3 + 2, none⟩ = some (.bool (atB W j))

theorem Acc.keep {w w' : World} {p : Option Addr} {N I : List Int} {W : List Bool} {n : Nat} (h : Acc w p N I W n) (hb : Below w.heap.size w w') : Acc w' p N I W n := by
  rcases h with h | ⟨b, o, rfl, h⟩
  · exact .inl h
  · exact .inr ⟨b, o, rfl, fun j hj => ⟨keepsB hb _ _ (h j hj).1, keepsB hb _ _ (h j hj).2.1, keepsB hb _ _ (h j hj).2.2⟩⟩

theorem keepsF {w w' : World} (h : Below w.heap.size w w') {a : Addr} (hz : w.frozen? a = false) (ha : a.block < w.heap.size) : w'.frozen? a = false := by
  rw [World.frozen?_of_block (h.block a.block ha)]
  exact hz

theorem setc_ne {W : World} {a b : Addr} {v : Value} (h : a ≠ b) : (W.setCell a v).cell? b = W.cell? b := by
  first | exact World.cell?_setCell_other h | exact World.cell?_setCell_other _ _ _ h | exact World.cell?_setCell_other _ _ h | exact World.cell?_setCell_other _ _ _ _ h
theorem setc_eq {W : World} {a : Addr} {u v : Value} (h : W.cell? a = some u) : (W.setCell a v).cell? a = some v := by
  first | exact World.cell?_setCell_same h | exact World.cell?_setCell_same _ _ _ h | exact World.cell?_setCell_same _ _ h

theorem set3 {W : World} {b : Nat} {u0 u1 u2 v0 v1 v2 : Value} (h0 : W.cell? ⟨b, 0, none⟩ = some u0) (h1 : W.cell? ⟨b, 1, none⟩ = some u1) (h2 : W.cell? ⟨b, 2, none⟩ = some u2) :
    (((W.setCell ⟨b, 0, none⟩ v0).setCell ⟨b, 1, none⟩ v1).setCell ⟨b, 2, none⟩ v2).cell? ⟨b, 0, none⟩ = some v0 ∧ (((W.setCell ⟨b, 0, none⟩ v0).setCell ⟨b, 1, none⟩ v1).setCell ⟨b, 2, none⟩ v2).cell? ⟨b, 1, none⟩ = some v1 ∧
    (((W.setCell ⟨b, 0, none⟩ v0).setCell ⟨b, 1, none⟩ v1).setCell ⟨b, 2, none⟩ v2).cell? ⟨b, 2, none⟩ = some v2 := by
  refine ⟨?_, ?_, ?_⟩
  · rw [setc_ne (by simp), setc_ne (by simp), setc_eq h0]
  · rw [setc_ne (by simp), setc_eq (u := u1) (by rw [setc_ne (by simp)]; exact h1)]
  · rw [setc_eq (u := u2) (by rw [setc_ne (by simp), setc_ne (by simp)]; exact h2)]

theorem below3 {w W : World} (h : Below w.heap.size w W) (v0 v1 v2 : Value) : Below w.heap.size w (((W.setCell ⟨w.heap.size, 0, none⟩ v0).setCell ⟨w.heap.size, 1, none⟩ v1).setCell ⟨w.heap.size, 2, none⟩ v2) :=
  ((h.setCell (p := ⟨w.heap.size, 0, none⟩) (Nat.le_refl _) v0).setCell (p := ⟨w.heap.size, 1, none⟩) (Nat.le_refl _) v1).setCell (p := ⟨w.heap.size, 2, none⟩) (Nat.le_refl _) v2

/-- What an operation reads as. -/
def opVal (NU : List Int) (SS : List ByteArray) (N I : List Int) (W : List Bool) (p : Nat) : Value :=
  .agg #[.int .u8 (if atB W p then 119 else 114), .int .u64 (atI NU (atI N p).toNat), .string (atS SS (atI I p).toNat)]

set_option maxHeartbeats 1000000 in
set_option maxRecDepth 100000 in
theorem op_raw (gb b0 o0 c0 b1 o1 c1 bA oA cA n M K p nd it : Nat) (x : Int) (s : ByteArray) (wr : Bool) (w : World)
    (h0 : w.cell? ⟨gb, 0, none⟩ = some (.slice (some ⟨b0, o0, none⟩) M c0)) (h1 : w.cell? ⟨gb, 1, none⟩ = some (.slice (some ⟨b1, o1, none⟩) K c1))
    (h2 : w.cell? ⟨gb, 2, none⟩ = some (.slice (some ⟨bA, oA, none⟩) n cA))
    (a0 : w.cell? ⟨bA, oA + p * 3, none⟩ = some (.int .i64 (nd : Int))) (a1 : w.cell? ⟨bA, oA + p * 3 + 1, none⟩ = some (.int .i64 (it : Int))) (a2 : w.cell? ⟨bA, oA + p * 3 + 2, none⟩ = some (.bool wr))
    (hN : w.cell? ⟨b0, o0 + nd, none⟩ = some (.int .u64 x)) (hS : w.cell? ⟨b1, o1 + it, none⟩ = some (.string s))
    (hp : (p : Int) < (n : Int)) (hnd : (nd : Int) < (M : Int)) (hit : (it : Int) < (K : Int)) :
    Calls Try.prog 27 #[.pointer (some ⟨gb, 0, none⟩), .int .i64 (p : Int)] w fun e w' => e = .returned (.agg #[.int .u8 (if wr then 119 else 114), .int .u64 x, .string s]) ∧ Below w.heap.size w w' := by
  obtain ⟨W1, hW1⟩ : ∃ W1, W1 = w.alloc (.cells #[.int .u8 0, .int .u64 0, .string { data := #[] }] 40) := ⟨_, rfl⟩
  have B1 : Below w.heap.size w W1 := by rw [hW1]; exact (Below.refl _ _).alloc (Nat.le_refl _) _
  have k2 := keepsB B1 _ _ h2
  have k3 := keepsB B1 _ _ a0
  have k4 := keepsB B1 _ _ a1
  have k5 := keepsB B1 _ _ a2
  rw [hW1] at k2 k3 k4 k5
  obtain ⟨W2, hW2⟩ : ∃ W2, W2 = W1.alloc (.cells #[.int .i64 (nd : Int), .int .i64 (it : Int), .bool wr] 60) := ⟨_, rfl⟩
  have s1 : W1.heap.size = w.heap.size + 1 := by rw [hW1]; simp
  have s2 : W2.heap.size = w.heap.size + 1 + 1 := by rw [hW2]; simp [s1]
  have B2 : Below w.heap.size w W2 := by rw [hW2]; exact B1.alloc (by omega) _
  have f0 := keepsB B2 _ _ h0
  have f1 := keepsB B2 _ _ h1
  have fN := keepsB B2 _ _ hN
  have fS := keepsB B2 _ _ hS
  have v0 : W2.cell? ⟨w.heap.size + 1, 0, none⟩ = some (.int .i64 (nd : Int)) := by rw [hW2, ← s1]; simp [go_sem]
  have v1 : W2.cell? ⟨w.heap.size + 1, 1, none⟩ = some (.int .i64 (it : Int)) := by rw [hW2, ← s1]; simp [go_sem]
  have v2 : W2.cell? ⟨w.heap.size + 1, 2, none⟩ = some (.bool wr) := by rw [hW2, ← s1]; simp [go_sem]
  have r0 : W2.cell? ⟨w.heap.size, 0, none⟩ = some (.int .u8 0) := by rw [hW2, hW1]; simp [go_sem]
  have r1 : W2.cell? ⟨w.heap.size, 1, none⟩ = some (.int .u64 0) := by rw [hW2, hW1]; simp [go_sem]
  have r2 : W2.cell? ⟨w.heap.size, 2, none⟩ = some (.string { data := #[] }) := by rw [hW2, hW1]; simp [go_sem]
  have z0 : W2.frozen? ⟨w.heap.size, 0, none⟩ = false := by rw [hW2, hW1]; simp [go_sem]
  have z1 : W2.frozen? ⟨w.heap.size, 1, none⟩ = false := by rw [hW2, hW1]; simp [go_sem]
  have z2 : W2.frozen? ⟨w.heap.size, 2, none⟩ = false := by rw [hW2, hW1]; simp [go_sem]
  have n0 := World.new_ne W2 _ f0
  have n1 := World.new_ne W2 _ f1
  have n2 := World.new_ne W2 _ fN
  have n3 := World.new_ne W2 _ fS
  have n4 := World.new_ne W2 _ v0
  have n5 := World.new_ne W2 _ r0
  rw [hW1] at hW2
  go_enter Try.func27, Try.ntmps27
  go_wp2_with fail
  rw [← hW2]
  clear k2 k3 k4 k5 hW2 hW1 h0 h1 h2 a0 a1 a2 hN hS
  go_region_held3 (fun w' => w'.cell? ⟨gb, 0, none⟩ = some (.slice (some ⟨b0, o0, none⟩) M c0) ∧ w'.cell? ⟨gb, 1, none⟩ = some (.slice (some ⟨b1, o1, none⟩) K c1) ∧ w'.cell? ⟨b0, o0 + nd, none⟩ = some (.int .u64 x) ∧ w'.cell? ⟨b1, o1 + it, none⟩ = some (.string s) ∧ w'.cell? ⟨w.heap.size + 1, 0, none⟩ = some (.int .i64 (nd : Int)) ∧ w'.cell? ⟨w.heap.size + 1, 1, none⟩ = some (.int .i64 (it : Int))) (go_keep) (fail)
  obtain ⟨W3, hW3⟩ : ∃ W3, W3 = (W2.alloc (.cells #[.int .u8 114, .int .u64 x, .string s] 40)).drew := ⟨_, rfl⟩
  have B23 : Below W2.heap.size W2 W3 := by rw [hW3]; exact Below.drew ((Below.refl _ _).alloc (Nat.le_refl _) _)
  have B3 : Below w.heap.size w W3 := by rw [hW3]; exact Below.drew (B2.alloc (by omega) _)
  have e2 := keepsB B23 _ _ v2
  have q0 := keepsB B23 _ _ r0
  have q1 := keepsB B23 _ _ r1
  have q2 := keepsB B23 _ _ r2
  have y0 := keepsF B23 z0 (by rw [s2]; simp; omega)
  have y1 := keepsF B23 z1 (by rw [s2]; simp; omega)
  have y2 := keepsF B23 z2 (by rw [s2]; simp; omega)
  have g0 : W3.cell? ⟨w.heap.size + 1 + 1, 0, none⟩ = some (.int .u8 114) := by rw [hW3, ← s2]; simp [go_sem]
  have g1 : W3.cell? ⟨w.heap.size + 1 + 1, 1, none⟩ = some (.int .u64 x) := by rw [hW3, ← s2]; simp [go_sem]
  have g2 : W3.cell? ⟨w.heap.size + 1 + 1, 2, none⟩ = some (.string s) := by rw [hW3, ← s2]; simp [go_sem]
  have gz : W3.frozen? ⟨w.heap.size + 1 + 1, 0, none⟩ = false := by rw [hW3, ← s2]; simp [go_sem]
  rw [← hW3]
  rename_i hHeld
  clear hHeld hW3 f0 f1 fN fS v0 v1 v2 n0 n1 n2 n3 n4 n5 r0 r1 r2 z0 z1 z2 B1 B2 B23 s1 s2
  cases wr
  · have k3 := set3 (b := w.heap.size) (v0 := .int .u8 114) (v1 := .int .u64 x) (v2 := .string s) q0 q1 q2
    have B4 := below3 B3 (.int .u8 114) (.int .u64 x) (.string s)
    go_wp2_with fail
    exact bodyPost_ret (v := .agg #[.int .u8 114, .int .u64 x, .string s]) (by simp [results, Try.results27, go_sem, k3.1, k3.2.1, k3.2.2]) rfl ⟨rfl, B4⟩
  · have q0' : (W3.setCell ⟨w.heap.size + 1 + 1, 0, none⟩ (.int .u8 119)).cell? ⟨w.heap.size, 0, none⟩ = some (.int .u8 0) := by rw [setc_ne (by simp)]; exact q0
    have q1' : (W3.setCell ⟨w.heap.size + 1 + 1, 0, none⟩ (.int .u8 119)).cell? ⟨w.heap.size, 1, none⟩ = some (.int .u64 0) := by rw [setc_ne (by simp)]; exact q1
    have q2' : (W3.setCell ⟨w.heap.size + 1 + 1, 0, none⟩ (.int .u8 119)).cell? ⟨w.heap.size, 2, none⟩ = some (.string { data := #[] }) := by rw [setc_ne (by simp)]; exact q2
    have k3 := set3 (b := w.heap.size) (v0 := .int .u8 119) (v1 := .int .u64 x) (v2 := .string s) q0' q1' q2'
    have B4 := below3 (B3.setCell (p := ⟨w.heap.size + 1 + 1, 0, none⟩) (by simp; omega) (.int .u8 119)) (.int .u8 119) (.int .u64 x) (.string s)
    clear q0' q1' q2'
    go_wp2_with fail
    exact bodyPost_ret (v := .agg #[.int .u8 119, .int .u64 x, .string s]) (by simp [results, Try.results27, go_sem, k3.1, k3.2.1, k3.2.2]) rfl ⟨rfl, B4⟩

/-- The graph's four fields. -/
def Graph (w : World) (gb : Nat) (NU : List Int) (SS : List ByteArray) (N I : List Int) (W : List Bool) (n : Nat) (G : List (List Int)) : Prop :=
  ∃ (p0 p1 pA p5 : Option Addr) (c0 c1 cA c5 : Nat), (w.cell? ⟨gb, 0, none⟩ = some (.slice p0 NU.length c0) ∧ Row w p0 (NU.map encU)) ∧ (w.cell? ⟨gb, 1, none⟩ = some (.slice p1 SS.length c1) ∧ Row w p1 (SS.map encS)) ∧
    (w.cell? ⟨gb, 2, none⟩ = some (.slice pA n cA) ∧ Acc w pA N I W n) ∧ w.cell? ⟨gb, 3, none⟩ = some (.slice p5 G.length c5) ∧ Grid w p5 G

theorem Graph.keep {w w' : World} {gb : Nat} {NU : List Int} {SS : List ByteArray} {N I : List Int} {W : List Bool} {n : Nat} {G : List (List Int)} (h : Graph w gb NU SS N I W n G) (hb : Below w.heap.size w w') : Graph w' gb NU SS N I W n G := by
  obtain ⟨p0, p1, pA, p5, c0, c1, cA, c5, ⟨h0, r0⟩, ⟨h1, r1⟩, ⟨h2, r2⟩, h3, r3⟩ := h
  exact ⟨p0, p1, pA, p5, c0, c1, cA, c5, ⟨keepsB hb _ _ h0, r0.keep hb⟩, ⟨keepsB hb _ _ h1, r1.keep hb⟩, ⟨keepsB hb _ _ h2, r2.keep hb⟩, keepsB hb _ _ h3, r3.keep hb⟩

theorem op_any {w : World} {gb : Nat} {NU : List Int} {SS : List ByteArray} {N I : List Int} {W : List Bool} {n : Nat} {G : List (List Int)} (h : Graph w gb NU SS N I W n G) {p : Nat} (hp : p < n)
    (hN : 0 ≤ atI N p ∧ atI N p < NU.length) (hI : 0 ≤ atI I p ∧ atI I p < SS.length) :
    Calls Try.prog 27 #[.pointer (some ⟨gb, 0, none⟩), .int .i64 (p : Int)] w fun e w' => e = .returned (opVal NU SS N I W p) ∧ Below w.heap.size w w' := by
  obtain ⟨p0, p1, pA, p5, c0, c1, cA, c5, ⟨h0, r0⟩, ⟨h1, r1⟩, ⟨h2, r2⟩, h3, r3⟩ := h
  obtain ⟨nd, end_⟩ := Int.eq_ofNat_of_zero_le hN.1
  obtain ⟨it, eit⟩ := Int.eq_ofNat_of_zero_le hI.1
  obtain ⟨b0, o0, rfl, k0⟩ := Row.at (d := 0) r0 rfl (j := nd) (by omega)
  obtain ⟨b1, o1, rfl, k1⟩ := Row.at (d := ByteArray.empty) r1 rfl (j := it) (by omega)
  rcases r2 with r2 | ⟨bA, oA, rfl, r2⟩
  · omega
  obtain ⟨a0, a1, a2⟩ := r2 p hp
  rw [end_] at a0
  rw [eit] at a1
  have := op_raw gb b0 o0 c0 b1 o1 c1 bA oA cA n NU.length SS.length p nd it (atI NU nd) (atS SS it) (atB W p) w h0 h1 h2 a0 a1 a2 (k0 nd (by omega)) (k1 it (by omega)) (by omega) (by omega) (by omega)
  unfold opVal
  rw [end_, eit]
  exact this
end Go.Proofs.Qxb6619273a
