import Derived.Test.Qxb6619273aEc
import Derived.Deep.OwnRows
namespace Go.Proofs.Qxb6619273a
open Go.RowKit Go.Maps Go.ChangeShapes Go.MapKept

theorem info60 : (Try.prog.info? 60).map (fun i => (i.zero, i.size, i.bytes)) = some (some (.agg #[.int .i64 0, .int .i64 0, .bool false]), 3, 24) := by kernel_rfl

/-- The first k accesses are laid. -/
def Laid (f : Nat → Value) (N I : List Int) (W : List Bool) (k : Nat) : Prop := ∀ j, j < k → f (j * 3) = .int .i64 (atI N j) ∧ f (j * 3 + 1) = .int .i64 (atI I j) ∧ f (j * 3 + 2) = .bool (atB W j)

theorem laid_step {wr F : World} {b n k : Nat} {f : Nat → Value} {N I : List Int} {W : List Bool} (h : wr.rowIs b 60 (n * 3) f) (hl : Laid f N I W k)
    (hF : F = (((wr.setCell ⟨b, k * 3, none⟩ (.int .i64 (atI N k))).setCell ⟨b, k * 3 + 1, none⟩ (.int .i64 (atI I k))).setCell ⟨b, k * 3 + 2, none⟩ (.bool (atB W k))).drew) :
    ∃ f, F.rowIs b 60 (n * 3) f ∧ Laid f N I W (k + 1) := by
  subst hF
  refine ⟨_, (((h.set (k * 3) (.int .i64 (atI N k))).set (k * 3 + 1) (.int .i64 (atI I k))).set (k * 3 + 2) (.bool (atB W k))).drew, fun j hj => ?_⟩
  rcases Nat.lt_or_ge j k with h1 | h1
  · obtain ⟨a, b, c⟩ := hl j h1
    simp only [show ¬ j * 3 = k * 3 + 2 by omega, show ¬ j * 3 = k * 3 + 1 by omega, show ¬ j * 3 = k * 3 by omega, show ¬ j * 3 + 1 = k * 3 + 2 by omega, show ¬ j * 3 + 1 = k * 3 + 1 by omega, show ¬ j * 3 + 1 = k * 3 by omega, show ¬ j * 3 + 2 = k * 3 + 2 by omega, show ¬ j * 3 + 2 = k * 3 + 1 by omega, show ¬ j * 3 + 2 = k * 3 by omega, if_false]
    exact ⟨a, b, c⟩
  · obtain rfl : j = k := by omega
    simp

set_option maxHeartbeats 8000000 in
set_option maxRecDepth 100000 in
theorem zz_raw (b2 o2 c2 b3 o3 c3 b4 o4 c4 n : Nat) (p0 p1 p5 : Option Addr) (c0 c1 c5 : Nat) (u v : Int) (NU : List Int) (SS : List ByteArray) (N I : List Int) (W : List Bool) (G : List (List Int)) (w : World) (hn : n ≤ 4096)
    (r0 : Row w p0 (NU.map encU)) (r1 : Row w p1 (SS.map encS)) (r5 : Grid w p5 G)
    (hEC : ∀ V gb, Graph V gb NU SS N I W n G → Calls Try.prog 22 #[.pointer (some ⟨gb, 0, none⟩), .int .i64 u, .int .i64 v] V fun e w' => RetConf e NU SS N I W u v n ∧ Below V.heap.size V w')
    (k2 : ∀ j, j < n → w.cell? ⟨b2, o2 + j, none⟩ = some (.int .i64 (atI N j))) (k3 : ∀ j, j < n → w.cell? ⟨b3, o3 + j, none⟩ = some (.int .i64 (atI I j))) (k4 : ∀ j, j < n → w.cell? ⟨b4, o4 + j, none⟩ = some (.bool (atB W j))) :
    Calls Try.prog 14 #[.slice p0 NU.length c0, .slice p1 SS.length c1, .slice (some ⟨b2, o2, none⟩) n c2, .slice (some ⟨b3, o3, none⟩) n c3, .slice (some ⟨b4, o4, none⟩) n c4, .slice p5 G.length c5, .int .i64 u, .int .i64 v] w fun e w' => RetConf e NU SS N I W u v n ∧ Below w.heap.size w w' := by
  obtain ⟨i0, hi, hz0, hz1, hz2⟩ := info_parts info60
  obtain ⟨W0, hW0⟩ : ∃ W0, W0 = w.alloc (.cells #[.int .u8 0, .int .u64 0, .string { data := #[] }, .int .u8 0, .int .u64 0, .string { data := #[] }] 42) := ⟨_, rfl⟩
  have s0 : W0.heap.size = w.heap.size + 1 := by rw [hW0]; simp
  have B0 : Below w.heap.size w W0 := by rw [hW0]; exact (Below.refl _ _).alloc (Nat.le_refl _) _
  have Z0 : W0.heap[w.heap.size]? = some (.cells #[.int .u8 0, .int .u64 0, .string { data := #[] }, .int .u8 0, .int .u64 0, .string { data := #[] }] 42) := by rw [hW0]; exact (MapKept.heap_alloc w _).1
  have K2 := hide k2
  have K3 := hide k3
  have K4 := hide k4
  have HB0 := hide B0
  have HZ := hide Z0
  have S0 := hide s0
  have R0 := hide r0
  have R1 := hide r1
  have R5 := hide r5
  have HEC := hide hEC
  clear k2 k3 k4 B0 Z0 r0 r1 r5 hEC
  go_enter Try.func14, Try.ntmps14
  go_wp2_with (first
    | (at_make; rw [← hW0]; refine wpList_make_full _ rfl _ _ 58 rfl W0.heap.size 60 i0 (.agg #[.int .i64 0, .int .i64 0, .bool false]) 3 Try.underlying58 hi hz0 hz1 .i64 .i64 _ _ n rfl rfl rfl rfl (by rw [hz2]; omega) (by unfold maxLen; omega) (Nat.le_refl _) ?_; intro w1 hown hgrow; rw [s0] at hown ⊢))
  have hrow : ∃ f, w1.rowIs (w.heap.size + 1) 60 (n * 3) f := by
    rcases hown.2 with ⟨e, _⟩ | ⟨g, cap, cur, e, _, hh, _, _, hsz, _⟩
    · cases e
    · simp only [Value.slice.injEq, Option.some.injEq, Addr.mk.injEq] at e
      obtain ⟨⟨rfl, _⟩, _, rfl⟩ := e
      exact ⟨fun i => cur.getD i undef, cur, hh, hsz, fun i hi => by simp [Array.getD, hsz, hi]⟩
  have B1 : Below (w.heap.size + 1) W0 w1 := (Below.refl _ _).grown hgrow (by rw [s0]; exact Nat.le_refl _) (fun k hk => by cases hk)
  have sz1 : w.heap.size + 2 ≤ w1.heap.size := by
    obtain ⟨f, hf⟩ := hrow
    have := hf.lt
    omega
  clear hown hgrow hW0 s0
  have HB1 := hide B1
  clear B1
  go_loopw [25] (fun x wr => ∃ (k : Nat), k ≤ n ∧ x = .int .i64 k ∧ wr.heap.size = w1.heap.size ∧ Hid (Below (w.heap.size + 1) W0 wr) ∧ Hid (∃ f, wr.rowIs (w.heap.size + 1) 60 (n * 3) f ∧ Laid f N I W k)) (fun x _ => n - (intOf x).toNat)
  case atStart =>
    obtain ⟨f, hf⟩ := hrow
    exact ⟨0, by omega, rfl, rfl, HB1, ⟨f, hf, fun j hj => by omega⟩⟩
  case round =>
    obtain ⟨k, hk, rfl, hsz, HBk, HF⟩ := hrel
    by_cases hlt : k < n
    · have hki : (k : Int) < (n : Int) := by omega
      have e2 := keepsB HB0.out _ _ (K2.out k hlt)
      have e3 := keepsB HB0.out _ _ (K3.out k hlt)
      have e4 := keepsB HB0.out _ _ (K4.out k hlt)
      have BW : Below W0.heap.size W0 wr := by rw [S0.out]; exact HBk.out
      have l2 := cell_lt (K2.out k hlt)
      have l3 := cell_lt (K3.out k hlt)
      have l4 := cell_lt (K4.out k hlt)
      simp only at l2 l3 l4
      replace e2 := keepsB BW _ _ e2
      replace e3 := keepsB BW _ _ e3
      replace e4 := keepsB BW _ _ e4
      clear BW
      obtain ⟨f, hf, hl⟩ := HF.out
      have g0 := hf.cell (i := k * 3) (by omega)
      have g1 := hf.cell (i := k * 3 + 1) (by omega)
      have g2 := hf.cell (i := k * 3 + 2) (by omega)
      have y0 := hf.frozen (k * 3)
      have y1 := hf.frozen (k * 3 + 1)
      have y2 := hf.frozen (k * 3 + 2)
      have q2 : w.heap.size + 1 ≠ b2 := by omega
      have q3 : w.heap.size + 1 ≠ b3 := by omega
      have q4 : w.heap.size + 1 ≠ b4 := by omega
      have HR := hide hf
      have HL := hide hl
      clear hf hl
      go_wp2_with fail
      go_region_held3 (fun w' => w'.cell? ⟨b2, o2 + k, none⟩ = some (.int .i64 (atI N k)) ∧ w'.cell? ⟨b3, o3 + k, none⟩ = some (.int .i64 (atI I k)) ∧ w'.cell? ⟨b4, o4 + k, none⟩ = some (.bool (atB W k))) (go_keep) (fail)
      obtain ⟨F, hF⟩ : ∃ F, F = (((wr.setCell ⟨w.heap.size + 1, k * 3, none⟩ (.int .i64 (atI N k))).setCell ⟨w.heap.size + 1, k * 3 + 1, none⟩ (.int .i64 (atI I k))).setCell ⟨w.heap.size + 1, k * 3 + 2, none⟩ (.bool (atB W k))).drew := ⟨_, rfl⟩
      have hF2 := laid_step HR.out HL.out hF
      have hB2 : Below (w.heap.size + 1) W0 F := by
        rw [hF]
        exact Below.drew (((HBk.out.setCell (p := ⟨w.heap.size + 1, k * 3, none⟩) (Nat.le_refl _) _).setCell (p := ⟨w.heap.size + 1, k * 3 + 1, none⟩) (Nat.le_refl _) _).setCell (p := ⟨w.heap.size + 1, k * 3 + 2, none⟩) (Nat.le_refl _) _)
      have hsF : F.heap.size = w1.heap.size := by
        rw [hF, ← hsz]
        show (((wr.setCell _ _).setCell _ _).setCell _ _).heap.size = _
        simp [World.setCell]
      rw [← hF]
      rename_i hHeld
      clear hHeld hF g0 g1 g2 y0 y1 y2 e2 e3 e4
      have HF2 := hide hF2
      have HB2 := hide hB2
      clear hF2 hB2
      go_wp2_with fail
      exact ⟨⟨k + 1, by omega, by go_num, hsF, HB2, HF2⟩, by simp [intOf]; omega⟩
    · obtain rfl : n = k := by omega
      obtain ⟨V, hV⟩ : ∃ V, V = wr.alloc (Obj.cells #[.slice p0 NU.length c0, .slice p1 SS.length c1, .slice (some ⟨w.heap.size + 1, 0, none⟩) n n, .slice p5 G.length c5, .slice none 0 0, .slice none 0 0, .slice none 0 0] 63) := ⟨_, rfl⟩
      have hVA : V.heap[w1.heap.size]? = some (.cells #[.slice p0 NU.length c0, .slice p1 SS.length c1, .slice (some ⟨w.heap.size + 1, 0, none⟩) n n, .slice p5 G.length c5, .slice none 0 0, .slice none 0 0, .slice none 0 0] 63) := by
        rw [hV, ← hsz]
        exact (MapKept.heap_alloc wr _).1
      have BV : Below (w.heap.size + 1) W0 V := by rw [hV]; exact HBk.out.alloc (by omega) _
      have BwV : Below w.heap.size w V := HB0.out.trans (BV.mono (by omega))
      have hGr : Graph V w1.heap.size NU SS N I W n G := by
        refine ⟨p0, p1, some ⟨w.heap.size + 1, 0, none⟩, p5, c0, c1, n, c5, ⟨cell_whole hVA rfl, R0.out.keep BwV⟩, ⟨cell_whole hVA rfl, R1.out.keep BwV⟩, ⟨cell_whole hVA rfl, ?_⟩, cell_whole hVA rfl, R5.out.keep BwV⟩
        obtain ⟨f, hf, hl⟩ := HF.out
        have hfV : V.rowIs (w.heap.size + 1) 60 (n * 3) f := by rw [hV]; exact hf.alloc _
        refine .inr ⟨w.heap.size + 1, 0, rfl, fun j hj => ?_⟩
        obtain ⟨l0, l1, l2⟩ := hl j hj
        rw [Nat.zero_add]
        refine ⟨?_, ?_, ?_⟩
        · rw [hfV.cell (by omega), l0]
        · rw [hfV.cell (by omega), l1]
        · rw [hfV.cell (by omega), l2]
      have HC := hide (HEC.out V _ hGr)
      have hZV : V.heap[w.heap.size]? = some (.cells #[.int .u8 0, .int .u64 0, .string { data := #[] }, .int .u8 0, .int .u64 0, .string { data := #[] }] 42) := (BV.block w.heap.size (by omega)).trans HZ.out
      have HZV := hide hZV
      have HBV := hide BwV
      clear hGr hVA BV BwV hZV
      go_wp2_with fail
      rw [← hV]
      clear hV
      refine HC.out.mono ?_
      rintro e wb ⟨⟨p, q, hleast, rfl⟩, hBb⟩
      have hZb := (hBb.block w.heap.size (Array.getElem?_eq_some_iff.1 HZV.out).1).trans HZV.out
      have hBw : Below w.heap.size w wb := HBV.out.trans (hBb.mono HBV.out.size)
      have HRET : Hid (RetConf (.returned (.agg #[.int .u8 (if atB W p then 119 else 114), .int .u64 (atI NU (atI N p).toNat), .string (atS SS (atI I p).toNat), .int .u8 (if atB W q then 119 else 114), .int .u64 (atI NU (atI N q).toNat), .string (atS SS (atI I q).toNat)])) NU SS N I W u v n) := ⟨p, q, hleast, rfl⟩
      generalize (if atB W p then (119 : Int) else 114) = ky at *
      generalize atI NU (atI N p).toNat = xy at *
      generalize atS SS (atI I p).toNat = sy at *
      generalize (if atB W q then (119 : Int) else 114) = kq at *
      generalize atI NU (atI N q).toNat = xq at *
      generalize atS SS (atI I q).toNat = sq at *
      have z0 : wb.cell? ⟨w.heap.size, 0, none⟩ = some (.int .u8 0) := cell_whole hZb rfl
      have z1 : wb.cell? ⟨w.heap.size, 1, none⟩ = some (.int .u64 0) := cell_whole hZb rfl
      have z2 : wb.cell? ⟨w.heap.size, 2, none⟩ = some (.string { data := #[] }) := cell_whole hZb rfl
      have z3 : wb.cell? ⟨w.heap.size, 3, none⟩ = some (.int .u8 0) := cell_whole hZb rfl
      have z4 : wb.cell? ⟨w.heap.size, 4, none⟩ = some (.int .u64 0) := cell_whole hZb rfl
      have z5 : wb.cell? ⟨w.heap.size, 5, none⟩ = some (.string { data := #[] }) := cell_whole hZb rfl
      have y0 := frozen_whole (i := 0) hZb
      have y1 := frozen_whole (i := 1) hZb
      have y2 := frozen_whole (i := 2) hZb
      have y3 := frozen_whole (i := 3) hZb
      have y4 := frozen_whole (i := 4) hZb
      have y5 := frozen_whole (i := 5) hZb
      have r6 := set6 (v0 := .int .u8 ky) (v1 := .int .u64 xy) (v2 := .string sy) (v3 := .int .u8 kq) (v4 := .int .u64 xq) (v5 := .string sq) z0 z1 z2 z3 z4 z5 rfl
      have BF := below6 hBw (.int .u8 ky) (.int .u64 xy) (.string sy) (.int .u8 kq) (.int .u64 xq) (.string sq) rfl
      have HR6 := hide r6
      have HBF := hide BF
      clear r6 BF hBb hBw hZb hleast HC
      go_wp2_with fail
      have r6 := HR6.out
      exact bodyPost_ret (v := .agg #[.int .u8 ky, .int .u64 xy, .string sy, .int .u8 kq, .int .u64 xq, .string sq]) (by simp [results, Try.results14, go_sem, r6.1, r6.2.1, r6.2.2.1, r6.2.2.2.1, r6.2.2.2.2.1, r6.2.2.2.2.2]) rfl ⟨HRET.out, HBF.out⟩
end Go.Proofs.Qxb6619273a
