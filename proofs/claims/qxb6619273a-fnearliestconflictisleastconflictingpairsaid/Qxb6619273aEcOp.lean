import Derived.Test.Qxb6619273aOps
namespace Go.Proofs.Qxb6619273a
open Go.RowKit

set_option maxHeartbeats 1000000 in
set_option maxRecDepth 100000 in
theorem ecop_raw (b0 o0 c0 b1 o1 c1 b2 o2 c2 b3 o3 c3 b4 o4 c4 n n3 n4 M K p nd it : Nat) (x : Int) (s : ByteArray) (wr : Bool) (w : World)
    (a0 : w.cell? ⟨b2, o2 + p, none⟩ = some (.int .i64 (nd : Int))) (a1 : w.cell? ⟨b3, o3 + p, none⟩ = some (.int .i64 (it : Int))) (a2 : w.cell? ⟨b4, o4 + p, none⟩ = some (.bool wr))
    (hN : w.cell? ⟨b0, o0 + nd, none⟩ = some (.int .u64 x)) (hS : w.cell? ⟨b1, o1 + it, none⟩ = some (.string s))
    (hp : (p : Int) < (n : Int)) (hp3 : (p : Int) < (n3 : Int)) (hp4 : (p : Int) < (n4 : Int)) (hnd : (nd : Int) < (M : Int)) (hit : (it : Int) < (K : Int)) :
    Calls Try.prog 15 #[.slice (some ⟨b0, o0, none⟩) M c0, .slice (some ⟨b1, o1, none⟩) K c1, .slice (some ⟨b2, o2, none⟩) n c2, .slice (some ⟨b3, o3, none⟩) n3 c3, .slice (some ⟨b4, o4, none⟩) n4 c4, .int .i64 (p : Int)] w fun e w' =>
      e = .returned (.agg #[.int .u8 (if wr then 119 else 114), .int .u64 x, .string s]) ∧ Below w.heap.size w w' := by
  obtain ⟨W1, hW1⟩ : ∃ W1, W1 = w.alloc (.cells #[.int .u8 0, .int .u64 0, .string { data := #[] }] 40) := ⟨_, rfl⟩
  have B1 : Below w.heap.size w W1 := by rw [hW1]; exact (Below.refl _ _).alloc (Nat.le_refl _) _
  have s1 : W1.heap.size = w.heap.size + 1 := by rw [hW1]; simp
  have f0 := keepsB B1 _ _ a0
  have f1 := keepsB B1 _ _ a1
  have f2 := keepsB B1 _ _ a2
  have fN := keepsB B1 _ _ hN
  have fS := keepsB B1 _ _ hS
  have r0 : W1.cell? ⟨w.heap.size, 0, none⟩ = some (.int .u8 0) := by rw [hW1]; simp [go_sem]
  have r1 : W1.cell? ⟨w.heap.size, 1, none⟩ = some (.int .u64 0) := by rw [hW1]; simp [go_sem]
  have r2 : W1.cell? ⟨w.heap.size, 2, none⟩ = some (.string { data := #[] }) := by rw [hW1]; simp [go_sem]
  have z0 : W1.frozen? ⟨w.heap.size, 0, none⟩ = false := by rw [hW1]; simp [go_sem]
  have z1 : W1.frozen? ⟨w.heap.size, 1, none⟩ = false := by rw [hW1]; simp [go_sem]
  have z2 : W1.frozen? ⟨w.heap.size, 2, none⟩ = false := by rw [hW1]; simp [go_sem]
  have n0 := Nat.ne_of_gt (cell_lt a0)
  have n1 := Nat.ne_of_gt (cell_lt a1)
  have n3 := Nat.ne_of_gt (cell_lt hN)
  have n4 := Nat.ne_of_gt (cell_lt hS)
  simp only at n0 n1 n3 n4
  have f2' := f2
  rw [hW1] at f2'
  clear a0 a1 a2 hN hS
  cases wr
  · have k3 := set3 (b := w.heap.size) (v0 := .int .u8 114) (v1 := .int .u64 x) (v2 := .string s) r0 r1 r2
    have B4 := below3 B1 (.int .u8 114) (.int .u64 x) (.string s)
    go_enter Try.func15, Try.ntmps15
    go_wp2_with fail
    rw [← hW1]
    clear f2' hW1
    go_region_held3 (fun w' => w'.cell? ⟨b2, o2 + p, none⟩ = some (.int .i64 (nd : Int)) ∧ w'.cell? ⟨b3, o3 + p, none⟩ = some (.int .i64 (it : Int)) ∧ w'.cell? ⟨b0, o0 + nd, none⟩ = some (.int .u64 x) ∧ w'.cell? ⟨b1, o1 + it, none⟩ = some (.string s)) (go_keep) (fail)
    rename_i hHeld
    clear hHeld
    go_wp2_with fail
    exact bodyPost_ret (v := .agg #[.int .u8 114, .int .u64 x, .string s]) (by simp [results, Try.results15, go_sem, k3.1, k3.2.1, k3.2.2]) rfl ⟨rfl, Below.drew B4⟩
  · have k3 := set3 (b := w.heap.size) (v0 := .int .u8 119) (v1 := .int .u64 x) (v2 := .string s) r0 r1 r2
    have B4 := below3 B1 (.int .u8 119) (.int .u64 x) (.string s)
    go_enter Try.func15, Try.ntmps15
    go_wp2_with fail
    rw [← hW1]
    clear f2' hW1
    go_region_held3 (fun w' => w'.cell? ⟨b2, o2 + p, none⟩ = some (.int .i64 (nd : Int)) ∧ w'.cell? ⟨b3, o3 + p, none⟩ = some (.int .i64 (it : Int)) ∧ w'.cell? ⟨b0, o0 + nd, none⟩ = some (.int .u64 x) ∧ w'.cell? ⟨b1, o1 + it, none⟩ = some (.string s)) (go_keep) (fail)
    rename_i hHeld
    clear hHeld
    go_wp2_with fail
    exact bodyPost_ret (v := .agg #[.int .u8 119, .int .u64 x, .string s]) (by simp [results, Try.results15, go_sem, k3.1, k3.2.1, k3.2.2]) rfl ⟨rfl, Below.drew B4⟩

/-- zzEcOp. -/
theorem ecop_any {w : World} {p0 p1 p2 p3 p4 : Option Addr} {c0 c1 c2 c3 c4 n : Nat} {NU : List Int} {SS : List ByteArray} {N I : List Int} {W : List Bool} (r0 : Row w p0 (NU.map encU)) (r1 : Row w p1 (SS.map encS))
    (r2 : Row w p2 (N.map encI)) (r3 : Row w p3 (I.map encI)) (r4 : Row w p4 (W.map encB)) (h2 : n = N.length) (h3 : n = I.length) (h4 : n = W.length) {p : Nat} (hp : p < n)
    (hN : 0 ≤ atI N p ∧ atI N p < NU.length) (hI : 0 ≤ atI I p ∧ atI I p < SS.length) :
    Calls Try.prog 15 #[.slice p0 NU.length c0, .slice p1 SS.length c1, .slice p2 n c2, .slice p3 n c3, .slice p4 n c4, .int .i64 (p : Int)] w fun e w' => e = .returned (opVal NU SS N I W p) ∧ Below w.heap.size w w' := by
  obtain ⟨nd, end_⟩ := Int.eq_ofNat_of_zero_le hN.1
  obtain ⟨it, eit⟩ := Int.eq_ofNat_of_zero_le hI.1
  obtain ⟨b0, o0, rfl, k0⟩ := Row.at (d := 0) r0 rfl (j := nd) (by omega)
  obtain ⟨b1, o1, rfl, k1⟩ := Row.at (d := ByteArray.empty) r1 rfl (j := it) (by omega)
  obtain ⟨b2, o2, rfl, k2⟩ := Row.at (d := 0) r2 h2 hp
  obtain ⟨b3, o3, rfl, k3⟩ := Row.at (d := 0) r3 h3 hp
  obtain ⟨b4, o4, rfl, k4⟩ := Row.at (d := false) r4 h4 hp
  have a0 := k2 p hp
  have a1 := k3 p hp
  have a2 := k4 p hp
  change _ = some (Value.int .i64 (atI N p)) at a0
  change _ = some (Value.int .i64 (atI I p)) at a1
  rw [end_] at a0
  rw [eit] at a1
  have := ecop_raw b0 o0 c0 b1 o1 c1 b2 o2 c2 b3 o3 c3 b4 o4 c4 n n n NU.length SS.length p nd it (atI NU nd) (atS SS it) (atB W p) w a0 a1 a2 (k0 nd (by omega)) (k1 it (by omega)) (by omega) (by omega) (by omega) (by omega) (by omega)
  unfold opVal
  rw [end_, eit]
  exact this
end Go.Proofs.Qxb6619273a
