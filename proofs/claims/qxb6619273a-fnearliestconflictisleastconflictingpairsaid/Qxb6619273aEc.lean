import Derived.Test.Qxb6619273aPlain
namespace Go.Proofs.Qxb6619273a
open Go.RowKit Go.Maps Go.ChangeShapes Go.MapKept

theorem info3 : (Try.prog.info? 3).map (fun i => (i.zero, i.size, i.bytes)) = some (some (.int .i64 0), 1, 8) := by kernel_rfl

theorem frozen_whole {w : World} {A i : Nat} {cs : Array Value} {t : TypeId} (h : w.heap[A]? = some (.cells cs t)) : w.frozen? ⟨A, i, none⟩ = false := by
  simp [World.frozen?, h]

theorem op_lit {gb : Nat} {NU : List Int} {SS : List ByteArray} {N I : List Int} {W : List Bool} {n : Nat} {G : List (List Int)} {p : Nat} (hp : p < n)
    (hN : 0 ≤ atI N p ∧ atI N p < NU.length) (hI : 0 ≤ atI I p ∧ atI I p < SS.length) {k x : Int} {s : ByteArray} (hk : k = (if atB W p then 119 else 114)) (hx : x = atI NU (atI N p).toNat) (hs : s = atS SS (atI I p).toNat) (w : World) (h : Graph w gb NU SS N I W n G) :
    Calls Try.prog 27 #[.pointer (some ⟨gb, 0, none⟩), .int .i64 (p : Int)] w fun e w' => e = .returned (.agg #[.int .u8 k, .int .u64 x, .string s]) ∧ Below w.heap.size w w' := by
  have := op_any h hp hN hI
  unfold opVal at this
  rw [← hk, ← hx, ← hs] at this
  exact this

theorem set6 {W : World} {b : Nat} {u0 u1 u2 u3 u4 u5 v0 v1 v2 v3 v4 v5 : Value} (h0 : W.cell? ⟨b, 0, none⟩ = some u0) (h1 : W.cell? ⟨b, 1, none⟩ = some u1) (h2 : W.cell? ⟨b, 2, none⟩ = some u2) (h3 : W.cell? ⟨b, 3, none⟩ = some u3) (h4 : W.cell? ⟨b, 4, none⟩ = some u4) (h5 : W.cell? ⟨b, 5, none⟩ = some u5)
    {F : World} (hF : F = ((((((W.setCell ⟨b, 0, none⟩ v0).setCell ⟨b, 1, none⟩ v1).setCell ⟨b, 2, none⟩ v2).setCell ⟨b, 3, none⟩ v3).setCell ⟨b, 4, none⟩ v4).setCell ⟨b, 5, none⟩ v5)) :
    F.cell? ⟨b, 0, none⟩ = some v0 ∧ F.cell? ⟨b, 1, none⟩ = some v1 ∧ F.cell? ⟨b, 2, none⟩ = some v2 ∧ F.cell? ⟨b, 3, none⟩ = some v3 ∧ F.cell? ⟨b, 4, none⟩ = some v4 ∧ F.cell? ⟨b, 5, none⟩ = some v5 := by
  subst hF
  obtain ⟨a0, a1, a2⟩ := set3 (v0 := v0) (v1 := v1) (v2 := v2) h0 h1 h2
  have b3 : (((W.setCell ⟨b, 0, none⟩ v0).setCell ⟨b, 1, none⟩ v1).setCell ⟨b, 2, none⟩ v2).cell? ⟨b, 3, none⟩ = some u3 := by rw [setc_ne (by simp), setc_ne (by simp), setc_ne (by simp)]; exact h3
  have b4 : (((W.setCell ⟨b, 0, none⟩ v0).setCell ⟨b, 1, none⟩ v1).setCell ⟨b, 2, none⟩ v2).cell? ⟨b, 4, none⟩ = some u4 := by rw [setc_ne (by simp), setc_ne (by simp), setc_ne (by simp)]; exact h4
  have b5 : (((W.setCell ⟨b, 0, none⟩ v0).setCell ⟨b, 1, none⟩ v1).setCell ⟨b, 2, none⟩ v2).cell? ⟨b, 5, none⟩ = some u5 := by rw [setc_ne (by simp), setc_ne (by simp), setc_ne (by simp)]; exact h5
  generalize ((W.setCell ⟨b, 0, none⟩ v0).setCell ⟨b, 1, none⟩ v1).setCell ⟨b, 2, none⟩ v2 = Y at *
  refine ⟨?_, ?_, ?_, ?_, ?_, ?_⟩
  · rw [setc_ne (by simp), setc_ne (by simp), setc_ne (by simp)]; exact a0
  · rw [setc_ne (by simp), setc_ne (by simp), setc_ne (by simp)]; exact a1
  · rw [setc_ne (by simp), setc_ne (by simp), setc_ne (by simp)]; exact a2
  · rw [setc_ne (by simp), setc_ne (by simp), setc_eq b3]
  · rw [setc_ne (by simp), setc_eq (u := u4) (by rw [setc_ne (by simp)]; exact b4)]
  · rw [setc_eq (u := u5) (by rw [setc_ne (by simp), setc_ne (by simp)]; exact b5)]

theorem below6 {w W : World} (h : Below w.heap.size w W) (v0 v1 v2 v3 v4 v5 : Value) {F : World} (hF : F = ((((((W.setCell ⟨w.heap.size, 0, none⟩ v0).setCell ⟨w.heap.size, 1, none⟩ v1).setCell ⟨w.heap.size, 2, none⟩ v2).setCell ⟨w.heap.size, 3, none⟩ v3).setCell ⟨w.heap.size, 4, none⟩ v4).setCell ⟨w.heap.size, 5, none⟩ v5)) : Below w.heap.size w F := by
  subst hF
  exact (((below3 h v0 v1 v2).setCell (p := ⟨w.heap.size, 3, none⟩) (Nat.le_refl _) v3).setCell (p := ⟨w.heap.size, 4, none⟩) (Nat.le_refl _) v4).setCell (p := ⟨w.heap.size, 5, none⟩) (Nat.le_refl _) v5

/-- What earliestConflict returns: the two operations of the least conflict. -/
def RetConf (e : Ending) (NU : List Int) (SS : List ByteArray) (N I : List Int) (W : List Bool) (u v : Int) (n : Nat) : Prop :=
  ∃ p q : Nat, Least N I W u v n p q ∧ e = .returned (.agg #[.int .u8 (if atB W p then 119 else 114), .int .u64 (atI NU (atI N p).toNat), .string (atS SS (atI I p).toNat), .int .u8 (if atB W q then 119 else 114), .int .u64 (atI NU (atI N q).toNat), .string (atS SS (atI I q).toNat)])

theorem own_slice {w : World} {base : Nat} {v : Value} {zs : List Int} (h : w.ownsInts base 3 .i64 v zs) : ∃ (p : Option Addr) (c : Nat), v = .slice p zs.length c ∧ Row w p (zs.map encI) ∧ ∀ a, p = some a → base ≤ a.block := by
  have hc := h.1
  rcases h.1.2 with ⟨rfl, h0⟩ | ⟨g, cap, cur, rfl, hg, _⟩
  · refine ⟨none, 0, by rw [h0], .inl (by rw [List.length_eq_zero_iff.1 h0]; rfl), by simp⟩
  · refine ⟨some ⟨g, 0, none⟩, cap, rfl, .inr ⟨g, 0, rfl, fun j v hv => ?_⟩, fun a ha => by cases ha; exact hg⟩
    have := hc.cells (g := g) rfl j v hv
    have hadd : (⟨g, 0, none⟩ : Addr).add j = ⟨g, 0 + j, none⟩ := by unfold Addr.add; split <;> simp_all
    rw [hadd] at this
    exact this

set_option maxHeartbeats 8000000 in
set_option maxRecDepth 100000 in
theorem ec_raw (gb b5 o5 M c5 nL cL nU cU uu vv : Nat) (pL pU pA : Option Addr) (n cA : Nat) (w : World) (NU : List Int) (SS : List ByteArray) (N I : List Int) (W : List Bool) (L Lu : List Int) (G : List (List Int)) (hGr : Graph w gb NU SS N I W n G)
    (h2 : w.cell? ⟨gb, 2, none⟩ = some (.slice pA n cA)) (h3 : w.cell? ⟨gb, 3, none⟩ = some (.slice (some ⟨b5, o5, none⟩) M c5))
    (hL : w.cell? ⟨b5, o5 + vv, none⟩ = some (.slice pL nL cL)) (hvi : (vv : Int) < (M : Int)) (hnL : nL = L.length) (hLn : nL ≤ 4096) (hRL : Row w pL (L.map encI)) (hA : Acc w pA N I W n)
    (hU : w.cell? ⟨b5, o5 + uu, none⟩ = some (.slice pU nU cU)) (hui : (uu : Int) < (M : Int)) (hnU : nU = Lu.length) (hUn : nU ≤ 4096) (hRU : Row w pU (Lu.map encI))
    (ru : NodeRow N n uu Lu) (rv : NodeRow N n vv L) (hps : ∀ p, p < n → (0 ≤ atI N p ∧ atI N p < NU.length) ∧ 0 ≤ atI I p ∧ atI I p < SS.length) (hcf : ∃ p q, Conf N I W uu vv n p q)
    (hwf : ∀ y, y < n → (Lit.int .i64 (atI I y)).wf = true) (hn : n ≤ 4096) :
    Calls Try.prog 22 #[.pointer (some ⟨gb, 0, none⟩), .int .i64 (uu : Int), .int .i64 (vv : Int)] w fun e w' => RetConf e NU SS N I W uu vv n ∧ Below w.heap.size w w' := by
  have hpos : ∀ j, j < nL → ∃ y : Nat, atI L j = (y : Int) ∧ y < n := fun j hj => by
    obtain ⟨y, h1, h2, _⟩ := rv.into j (by omega)
    exact ⟨y, h1, h2⟩
  have hmm := @run_makeMap Try.prog
  obtain ⟨i0, hi, hz0, hz1, hz2⟩ := info_parts info3
  obtain ⟨W0, hW0⟩ : ∃ W0, W0 = w.alloc (.cells #[.int .u8 0, .int .u64 0, .string { data := #[] }, .int .u8 0, .int .u64 0, .string { data := #[] }] 42) := ⟨_, rfl⟩
  have s0 : W0.heap.size = w.heap.size + 1 := by rw [hW0]; simp
  have B0 : Below w.heap.size w W0 := by rw [hW0]; exact (Below.refl _ _).alloc (Nat.le_refl _) _
  have Z0 : W0.heap[w.heap.size]? = some (.cells #[.int .u8 0, .int .u64 0, .string { data := #[] }, .int .u8 0, .int .u64 0, .string { data := #[] }] 42) := by rw [hW0]; exact (MapKept.heap_alloc w _).1
  replace hRL := hRL.keep B0
  replace hRU := hRU.keep B0
  replace hA := hA.keep B0
  replace hGr := hGr.keep B0
  replace h2 := keepsB B0 _ _ h2
  replace h3 := keepsB B0 _ _ h3
  replace hL := keepsB B0 _ _ hL
  replace hU := keepsB B0 _ _ hU
  obtain ⟨W1, hW1⟩ : ∃ W1, W1 = (W0.alloc (.map #[] 0)).alloc (.map #[] 0) := ⟨_, rfl⟩
  have hT := two_start W0
  rw [← hW1, s0] at hT
  have B1 : Below W0.heap.size W0 W1 := by rw [hW1]; exact ((Below.refl _ _).alloc (Nat.le_refl _) _).alloc (by simp) _
  have s1 : W1.heap.size = w.heap.size + 1 + 1 + 1 := by rw [hW1]; simp [s0]
  have k3 := keepsB B1 _ _ h3
  have kL := keepsB B1 _ _ hL
  rw [hW1, hW0] at k3 kL
  have HGr := hide hGr
  have HRU := hide hRU
  have HnU := hide hnU
  have HRu := hide ru
  have HRv := hide rv
  have HPS := hide hps
  have HCF := hide hcf
  have H3 := hide h3
  have HU := hide hU
  have HT := hide hT
  have HB := hide B1
  have HRL := hide hRL
  have HA := hide hA
  have HP := hide hpos
  have HWF := hide hwf
  have HnL := hide hnL
  have H2 := hide h2
  have HB0 := hide B0
  have HZ := hide Z0
  have S0 := hide s0
  clear hT B1 hRL hA hpos hwf hnL h2 B0 h3 hL hRU hnU ru rv hps hcf hGr hU Z0
  go_enter Try.func22, Try.ntmps22
  go_wp2_with fail
  rw [← hW0, ← hW1]
  clear k3 kL hW0 hW1 s0
  go_loopw [28] (fun x wr => ∃ (k n1 n2 : Nat), k ≤ nL ∧ n1 ≤ k ∧ n2 ≤ k ∧ x = .int .i64 k ∧ w.heap.size + 3 ≤ wr.heap.size ∧ Hid (Below W0.heap.size W0 wr) ∧ Hid (Two wr (w.heap.size + 1) (w.heap.size + 1 + 1) (w.heap.size + 1 + 2) n1 n2 (grp I L k) (grpW I W L k))) (fun x _ => nL - (intOf x).toNat)
  case atStart => exact ⟨0, 0, 0, by omega, by omega, by omega, rfl, by omega, HB, HT⟩
  case round =>
    obtain ⟨k, n1, n2, hk, hn1, hn2, rfl, hsz, HBk, HTk⟩ := hrel
    by_cases hlt : k < nL
    · have hki : (k : Int) < (nL : Int) := by omega
      obtain ⟨bL, oL, rfl, hc⟩ := Row.at (d := 0) HRL.out HnL.out hlt
      obtain ⟨y, hy, hyn⟩ := HP.out k hlt
      have e1 := keepsB HBk.out _ _ (hc k hlt)
      change _ = some (Value.int .i64 (atI L k)) at e1
      rw [hy] at e1
      have e2 := keepsB HBk.out _ _ H2.out
      rcases HA.out with ha | ⟨bA, oA, rfl, ha⟩
      · omega
      obtain ⟨a0, a1, a2⟩ := ha y hyn
      replace a0 := keepsB HBk.out _ _ a0
      replace a1 := keepsB HBk.out _ _ a1
      replace a2 := keepsB HBk.out _ _ a2
      have hyi : (y : Int) < (n : Int) := by omega
      go_wp2_with fail
      obtain ⟨V, hV⟩ : ∃ V, V = wr.alloc (Obj.cells #[.int .i64 (atI N y), .int .i64 (atI I y), .bool (atB W y)] 60) := ⟨_, rfl⟩
      have hVA : V.heap[wr.heap.size]? = some (.cells #[.int .i64 (atI N y), .int .i64 (atI I y), .bool (atB W y)] 60) := by rw [hV]; exact (MapKept.heap_alloc wr _).1
      have hVs : V.heap.size = wr.heap.size + 1 := by rw [hV]; simp
      have TV : Two V (w.heap.size + 1) (w.heap.size + 1 + 1) (w.heap.size + 1 + 2) n1 n2 (grp I L k) (grpW I W L k) := by rw [hV]; exact HTk.out.alloc _
      have BV : Below W0.heap.size W0 V := by rw [hV]; exact HBk.out.alloc (by rw [S0.out]; omega) _
      rw [← hV]
      clear hV e1 e2 a0 a1 a2 ha hc
      have hwy := HWF.out y hyn
      have GS := hide (grp_step (I := I) hy (by rw [← HnL.out]; exact hlt))
      have GW := hide (grpW_step (I := I) (W := W) hy (by rw [← HnL.out]; exact hlt))
      have GN := hide (grpW_skip (I := I) (W := W) hy (by rw [← HnL.out]; exact hlt))
      generalize hit : atI I y = it at *
      generalize hwq : atB W y = wy at *
      have wfy : (Lit.int .i64 (y : Int)).wf = true := WalkArith.wf_i64 (by omega)
      have hbb : W0.heap.size ≤ w.heap.size + 1 + 2 := by rw [S0.out]; omega
      have hbB1 : W0.heap.size ≤ w.heap.size + 1 := by rw [S0.out]; exact Nat.le_refl _
      have hbB2 : W0.heap.size ≤ w.heap.size + 1 + 1 := by rw [S0.out]; omega
      have hXAa : (V.alloc (Obj.cells #[.int .i64 (y : Int)] 3)).drew.heap[wr.heap.size]? = some (.cells #[.int .i64 (atI N y), .int .i64 it, .bool wy] 60) := by
        show (V.alloc _).heap[wr.heap.size]? = _
        rw [Below.heap_alloc _ _ _ (Array.getElem?_eq_some_iff.1 hVA).1]
        exact hVA
      have hXna : (V.alloc (Obj.cells #[.int .i64 (y : Int)] 3)).drew.heap[wr.heap.size + 1]? = some (.cells #[.int .i64 (y : Int)] 3) := by
        rw [← hVs]
        exact (MapKept.heap_alloc V _).1
      have c0a : V.drew.cell? ⟨wr.heap.size, 1, none⟩ = some (.int .i64 it) := cell_whole hVA rfl
      have c1a : (V.alloc (Obj.cells #[.int .i64 (y : Int)] 3)).drew.cell? ⟨wr.heap.size, 1, none⟩ = some (.int .i64 it) := cell_whole hXAa rfl
      have hnewsa := World.news_of_block hXna
      obtain ⟨v1a, L1a⟩ := TV.drew.look (by unfold maxLen; omega) hwy
      obtain ⟨v2a, L2a⟩ := (TV.alloc (Obj.cells #[.int .i64 (y : Int)] 3)).drew.look (by unfold maxLen; omega) hwy
      have ow1a : (V.alloc (Obj.cells #[.int .i64 (y : Int)] 3)).drew.ownsRow (w.heap.size + 1 + 2) 3 1 v1a (grp I L k it).length ((grp I L k it).map (Value.int .i64)) := L1a.own.1.alloc _
      have ow2a := L2a.own.1
      have lna := L1a.len
      have hr1a := L1a.run
      have hr2a := L2a.run
      have sXa : (V.alloc (Obj.cells #[.int .i64 (y : Int)] 3)).drew.heap.size = wr.heap.size + 1 + 1 := by simp [hVs]
      have rfa : (V.alloc (Obj.cells #[.int .i64 (y : Int)] 3)).drew.grownBy (V.alloc (Obj.cells #[.int .i64 (y : Int)] 3)).drew v2a.ownBlock := ⟨rfl, rfl, rfl, Nat.le_refl _, fun _ _ _ => rfl⟩
      have gada := grown_ad V (Obj.cells #[.int .i64 (y : Int)] 3) v1a.ownBlock
      have BXa : Below W0.heap.size W0 (V.alloc (Obj.cells #[.int .i64 (y : Int)] 3)).drew := Below.drew (BV.alloc (by rw [S0.out]; omega) _)
      have szVa : V.drew.heap.size = V.heap.size := rfl
      have hmxa : (grp I L k it).length + 1 ≤ maxLen := by unfold maxLen; omega
      have hbta : ((grp I L k it).length + 1) * 8 ≤ 140737488355328 := by omega
      have hbsa : w.heap.size + 1 + 2 ≤ (V.alloc (Obj.cells #[.int .i64 (y : Int)] 3)).drew.heap.size := by rw [sXa]; omega
      have hq1a : V.drew.heap.size ≤ wr.heap.size + 1 + 1 := by rw [szVa]; omega
      have haba : wr.heap.size ≠ w.heap.size + 1 := by omega
      have hb1a : W0.heap.size ≤ V.drew.heap.size := by rw [szVa, S0.out]; omega
      have hb2a : W0.heap.size ≤ (V.alloc (Obj.cells #[.int .i64 (y : Int)] 3)).drew.heap.size := by rw [sXa, S0.out]; omega
      have hb3a : w.heap.size + 3 ≤ V.drew.heap.size := by rw [szVa]; omega
      have hb4a : w.heap.size + 3 ≤ (V.alloc (Obj.cells #[.int .i64 (y : Int)] 3)).drew.heap.size := by rw [sXa]; omega
      go_region_held3 (fun w' => w'.cell? ⟨wr.heap.size, 1, none⟩ = some (.int .i64 it)) (first | with_reducible assumption | go_keep)
        ((first
          | (refine step_append_lies _ (by rfl) _ _ _ (by rfl) (w.heap.size + 1 + 2) 3 i0 (.int .i64 0) 1 8 Try.underlying31 hi hz0 hz1 hz2 rfl (by decide) v1a (grp I L k it).length ((grp I L k it).map (Value.int .i64)) (by rfl) ow1a ⟨wr.heap.size + 1, 0, none⟩ 1 1 [.int .i64 (y : Int)] (by rfl) rfl hnewsa (ints_oneCell .i64 [(y : Int)]) (by decide) hmxa hbta hbsa (wr.heap.size + 1 + 1) sXa ?_
             intro g cap w1 hown1 hgrow hat hlt
             obtain ⟨w2a, hrun2, hT2a, eA1, eA2a, hsz2, hB2⟩ := group_back L1a gada wfy hown1 hgrow hat hq1a hVA (by decide) haba
             have hS1 : w1.cell? ⟨wr.heap.size, 1, none⟩ = some (.int .i64 it) := cell_whole eA1 rfl
             have hS2 : w2a.cell? ⟨wr.heap.size, 1, none⟩ = some (.int .i64 it) := cell_whole eA2a rfl
             have hBwa : Below W0.heap.size W0 w2a := hB2 _ _ (Below.drew BV) hb1a hbb hbB1
             have hsz3a : w.heap.size + 3 ≤ w2a.heap.size := Nat.le_trans hb3a hsz2)
          | (refine step_append_lies _ (by rfl) _ _ _ (by rfl) (w.heap.size + 1 + 2) 3 i0 (.int .i64 0) 1 8 Try.underlying31 hi hz0 hz1 hz2 rfl (by decide) v2a (grp I L k it).length ((grp I L k it).map (Value.int .i64)) (by rfl) ow2a ⟨wr.heap.size + 1, 0, none⟩ 1 1 [.int .i64 (y : Int)] (by rfl) rfl hnewsa (ints_oneCell .i64 [(y : Int)]) (by decide) hmxa hbta hbsa (wr.heap.size + 1 + 1) sXa ?_
             intro g cap w1 hown1 hgrow hat hlt
             obtain ⟨w2a, hrun2, hT2a, eA1, eA2a, hsz2, hB2⟩ := group_back L2a rfa wfy hown1 hgrow hat (Nat.le_of_eq sXa) hXAa (by decide) haba
             have hS1 : w1.cell? ⟨wr.heap.size, 1, none⟩ = some (.int .i64 it) := cell_whole eA1 rfl
             have hS2 : w2a.cell? ⟨wr.heap.size, 1, none⟩ = some (.int .i64 it) := cell_whole eA2a rfl
             have hBwa : Below W0.heap.size W0 w2a := hB2 _ _ BXa hb2a hbb hbB1
             have hsz3a : w.heap.size + 3 ≤ w2a.heap.size := Nat.le_trans hb4a hsz2)))
      all_goals
        rename_i hHeld
        clear hHeld
        try clear hHeld
        clear hown1 hgrow hat hlt hrun2 eA1 hsz2 hB2 hS1 hS2 L1a L2a ow1a ow2a lna hr1a hr2a hnewsa hXna hXAa c0a c1a gada rfa sXa BXa szVa hmxa hbta hbsa hq1a haba hb1a hb2a hb3a hb4a
        clear hVA hVs TV BV
        have c2 : w2a.cell? ⟨wr.heap.size, 2, none⟩ = some (.bool wy) := cell_whole eA2a rfl
        cases wy
        · clear GW
          go_wp2_with fail
          refine ⟨⟨k + 1, n1 + 1, n2, by omega, by omega, by omega, by go_num, hsz3a, hBwa, ?_⟩, by simp [intOf]; omega⟩
          have h1 := hT2a
          rw [GS.out] at h1
          rw [GN.out (by trivial)]
          exact h1
        · clear GN
          have TV2 := hT2a.swap
          go_wp2_with fail
          have hXAb : (w2a.alloc (Obj.cells #[.int .i64 (y : Int)] 3)).drew.heap[wr.heap.size]? = some (.cells #[.int .i64 (atI N y), .int .i64 it, .bool true] 60) := by
            show (w2a.alloc _).heap[wr.heap.size]? = _
            rw [Below.heap_alloc _ _ _ (Array.getElem?_eq_some_iff.1 eA2a).1]
            exact eA2a
          have hXnb : (w2a.alloc (Obj.cells #[.int .i64 (y : Int)] 3)).drew.heap[w2a.heap.size]? = some (.cells #[.int .i64 (y : Int)] 3) := by
            skip
            exact (MapKept.heap_alloc w2a _).1
          have c0b : w2a.drew.cell? ⟨wr.heap.size, 1, none⟩ = some (.int .i64 it) := cell_whole eA2a rfl
          have c1b : (w2a.alloc (Obj.cells #[.int .i64 (y : Int)] 3)).drew.cell? ⟨wr.heap.size, 1, none⟩ = some (.int .i64 it) := cell_whole hXAb rfl
          have hnewsb := World.news_of_block hXnb
          obtain ⟨v1b, L1b⟩ := TV2.drew.look (by unfold maxLen; omega) hwy
          obtain ⟨v2b, L2b⟩ := (TV2.alloc (Obj.cells #[.int .i64 (y : Int)] 3)).drew.look (by unfold maxLen; omega) hwy
          have ow1b : (w2a.alloc (Obj.cells #[.int .i64 (y : Int)] 3)).drew.ownsRow (w.heap.size + 1 + 2) 3 1 v1b (grpW I W L k it).length ((grpW I W L k it).map (Value.int .i64)) := L1b.own.1.alloc _
          have ow2b := L2b.own.1
          have lnb := L1b.len
          have hr1b := L1b.run
          have hr2b := L2b.run
          have sXb : (w2a.alloc (Obj.cells #[.int .i64 (y : Int)] 3)).drew.heap.size = w2a.heap.size + 1 := by simp
          have rfb : (w2a.alloc (Obj.cells #[.int .i64 (y : Int)] 3)).drew.grownBy (w2a.alloc (Obj.cells #[.int .i64 (y : Int)] 3)).drew v2b.ownBlock := ⟨rfl, rfl, rfl, Nat.le_refl _, fun _ _ _ => rfl⟩
          have gadb := grown_ad w2a (Obj.cells #[.int .i64 (y : Int)] 3) v1b.ownBlock
          have BXb : Below W0.heap.size W0 (w2a.alloc (Obj.cells #[.int .i64 (y : Int)] 3)).drew := Below.drew (hBwa.alloc (by rw [S0.out]; omega) _)
          have szVb : w2a.drew.heap.size = w2a.heap.size := rfl
          have hmxb : (grpW I W L k it).length + 1 ≤ maxLen := by unfold maxLen; omega
          have hbtb : ((grpW I W L k it).length + 1) * 8 ≤ 140737488355328 := by omega
          have hbsb : w.heap.size + 1 + 2 ≤ (w2a.alloc (Obj.cells #[.int .i64 (y : Int)] 3)).drew.heap.size := by rw [sXb]; omega
          have hq1b : w2a.drew.heap.size ≤ w2a.heap.size + 1 := by rw [szVb]; omega
          have habb : wr.heap.size ≠ w.heap.size + 1 + 1 := by omega
          have hb1b : W0.heap.size ≤ w2a.drew.heap.size := by rw [szVb, S0.out]; omega
          have hb2b : W0.heap.size ≤ (w2a.alloc (Obj.cells #[.int .i64 (y : Int)] 3)).drew.heap.size := by rw [sXb, S0.out]; omega
          have hb3b : w.heap.size + 3 ≤ w2a.drew.heap.size := by rw [szVb]; omega
          have hb4b : w.heap.size + 3 ≤ (w2a.alloc (Obj.cells #[.int .i64 (y : Int)] 3)).drew.heap.size := by rw [sXb]; omega
          go_region_held3 (fun w' => w'.cell? ⟨wr.heap.size, 1, none⟩ = some (.int .i64 it)) (first | with_reducible assumption | go_keep)
            ((first
              | (refine step_append_lies _ (by rfl) _ _ _ (by rfl) (w.heap.size + 1 + 2) 3 i0 (.int .i64 0) 1 8 Try.underlying31 hi hz0 hz1 hz2 rfl (by decide) v1b (grpW I W L k it).length ((grpW I W L k it).map (Value.int .i64)) (by rfl) ow1b ⟨w2a.heap.size, 0, none⟩ 1 1 [.int .i64 (y : Int)] (by rfl) rfl hnewsb (ints_oneCell .i64 [(y : Int)]) (by decide) hmxb hbtb hbsb (w2a.heap.size + 1) sXb ?_
                 intro g cap w1 hown1 hgrow hat hlt
                 obtain ⟨w2b, hrun2, hT2b, eA1, eA2b, hsz2, hB2⟩ := group_back L1b gadb wfy hown1 hgrow hat hq1b eA2a (by decide) habb
                 have hS1 : w1.cell? ⟨wr.heap.size, 1, none⟩ = some (.int .i64 it) := cell_whole eA1 rfl
                 have hS2 : w2b.cell? ⟨wr.heap.size, 1, none⟩ = some (.int .i64 it) := cell_whole eA2b rfl
                 have hBwb : Below W0.heap.size W0 w2b := hB2 _ _ (Below.drew hBwa) hb1b hbb hbB2
                 have hsz3b : w.heap.size + 3 ≤ w2b.heap.size := Nat.le_trans hb3b hsz2)
              | (refine step_append_lies _ (by rfl) _ _ _ (by rfl) (w.heap.size + 1 + 2) 3 i0 (.int .i64 0) 1 8 Try.underlying31 hi hz0 hz1 hz2 rfl (by decide) v2b (grpW I W L k it).length ((grpW I W L k it).map (Value.int .i64)) (by rfl) ow2b ⟨w2a.heap.size, 0, none⟩ 1 1 [.int .i64 (y : Int)] (by rfl) rfl hnewsb (ints_oneCell .i64 [(y : Int)]) (by decide) hmxb hbtb hbsb (w2a.heap.size + 1) sXb ?_
                 intro g cap w1 hown1 hgrow hat hlt
                 obtain ⟨w2b, hrun2, hT2b, eA1, eA2b, hsz2, hB2⟩ := group_back L2b rfb wfy hown1 hgrow hat (Nat.le_of_eq sXb) hXAb (by decide) habb
                 have hS1 : w1.cell? ⟨wr.heap.size, 1, none⟩ = some (.int .i64 it) := cell_whole eA1 rfl
                 have hS2 : w2b.cell? ⟨wr.heap.size, 1, none⟩ = some (.int .i64 it) := cell_whole eA2b rfl
                 have hBwb : Below W0.heap.size W0 w2b := hB2 _ _ BXb hb2b hbb hbB2
                 have hsz3b : w.heap.size + 3 ≤ w2b.heap.size := Nat.le_trans hb4b hsz2)))
          all_goals
            rename_i hHeld
            clear hHeld
            try clear hHeld
            clear hown1 hgrow hat hlt hrun2 eA1 hsz2 hB2 hS1 hS2 L1b L2b ow1b ow2b lnb hr1b hr2b hnewsb hXnb hXAb c0b c1b gadb rfb sXb BXb szVb hmxb hbtb hbsb hq1b habb hb1b hb2b hb3b hb4b
            go_wp2_with fail
            refine ⟨⟨k + 1, n1 + 1, n2 + 1, by omega, by omega, by omega, by go_num, hsz3b, hBwb, ?_⟩, by simp [intOf]; omega⟩
            have h1 := hT2b.swap
            rw [GS.out, GW.out (by trivial)] at h1
            exact h1
    · obtain rfl : nL = k := by omega
      have e3 := keepsB HBk.out _ _ H3.out
      have eU := keepsB HBk.out _ _ HU.out
      go_wp2_with fail
      go_loopw [70] (fun x w3 => ∃ (j : Nat), j ≤ nU ∧ x = .int .i64 j ∧ w.heap.size + 3 ≤ w3.heap.size ∧ Hid (Below W0.heap.size W0 w3) ∧ Hid (Two w3 (w.heap.size + 1) (w.heap.size + 1 + 1) (w.heap.size + 1 + 2) n1 n2 (grp I L nL) (grpW I W L nL)) ∧ Hid (NoHit I W Lu L j)) (fun x _ => nU - (intOf x).toNat)
      case atStart => exact ⟨0, by omega, rfl, hsz, HBk, HTk, fun i hi => by omega⟩
      case round =>
        clear HBk HTk hsz
        obtain ⟨j, hj, rfl, hsz, HBk, HTk, HNH⟩ := hrel
        by_cases hlt2 : j < nU
        · have hji : (j : Int) < (nU : Int) := by omega
          obtain ⟨bU, oU, rfl, hc⟩ := Row.at (d := 0) HRU.out HnU.out hlt2
          obtain ⟨y, hy, hyn, hyu⟩ := HRu.out.into j (by rw [← HnU.out]; exact hlt2)
          have e1 := keepsB HBk.out _ _ (hc j hlt2)
          change _ = some (Value.int .i64 (atI Lu j)) at e1
          rw [hy] at e1
          have e2 := keepsB HBk.out _ _ H2.out
          rcases HA.out with ha | ⟨bA, oA, rfl, ha⟩
          · omega
          obtain ⟨a0, a1, a2⟩ := ha y hyn
          replace a0 := keepsB HBk.out _ _ a0
          replace a1 := keepsB HBk.out _ _ a1
          replace a2 := keepsB HBk.out _ _ a2
          have hyi : (y : Int) < (n : Int) := by omega
          obtain ⟨V, hV⟩ : ∃ V, V = wr.alloc (Obj.cells #[.int .i64 (atI N y), .int .i64 (atI I y), .bool (atB W y)] 60) := ⟨_, rfl⟩
          have hVA : V.heap[wr.heap.size]? = some (.cells #[.int .i64 (atI N y), .int .i64 (atI I y), .bool (atB W y)] 60) := by rw [hV]; exact (MapKept.heap_alloc wr _).1
          have hVs : V.heap.size = wr.heap.size + 1 := by rw [hV]; simp
          have TV : Two V (w.heap.size + 1) (w.heap.size + 1 + 1) (w.heap.size + 1 + 2) n1 n2 (grp I L nL) (grpW I W L nL) := by rw [hV]; exact HTk.out.alloc _
          have BV : Below W0.heap.size W0 V := by rw [hV]; exact HBk.out.alloc (by rw [S0.out]; omega) _
          have c1 : V.cell? ⟨wr.heap.size, 1, none⟩ = some (.int .i64 (atI I y)) := cell_whole hVA rfl
          have c2 : V.cell? ⟨wr.heap.size, 2, none⟩ = some (.bool (atB W y)) := cell_whole hVA rfl
          have hwy := HWF.out y hyn
          obtain ⟨v1, L1⟩ := TV.look (by unfold maxLen; omega) hwy
          obtain ⟨v2, L2⟩ := TV.swap.look (by unfold maxLen; omega) hwy
          obtain ⟨p1, k1, rfl, R1, b1⟩ := own_slice L1.own
          obtain ⟨p2, k2, rfl, R2, b2⟩ := own_slice L2.own
          have hr1 := L1.run
          have hr2 := L2.run
          rw [hV] at c1 c2 hr1 hr2
          clear L1 L2 ha hc hyu
          have HTV := hide TV
          have HBV := hide BV
          have HVA := hide hVA
          have HR1 := hide R1
          have HR2 := hide R2
          clear TV BV hVA R1 R2
          cases hwq : atB W y
          all_goals rw [hwq] at a2 c2 hr1 hr2
          all_goals rw [hwq] at hV
          · have ec : cand I W L (atI I y) false = grpW I W L nL (atI I y) := by unfold cand; rw [← HnL.out]; rfl
            have hsearch := search_any p2 _ k2 (grpW I W L nL (atI I y)) ((y : Int) + 1) V rfl (by have := cand_len I W L (atI I y) false; rw [ec, ← HnL.out] at this; omega) (by rw [← ec]; exact cand_rising HRv.out.rise _ _) HR2.out
            have HSE := hide hsearch
            have zl : (grpW I W L nL (atI I y)).length ≤ 4096 := by have := cand_len I W L (atI I y) false; rw [ec, ← HnL.out] at this; omega
            clear hsearch
            go_wp2_with fail
            rw [← hV]
            refine HSE.out.mono ?_
            rintro e w' ⟨⟨i, bf, rfl, hcut⟩, hw'⟩
            obtain rfl := hw'.symm
            clear hw' hV hr1 hr2 c1 c2 e1 e2 a0 a1 a2 HSE
            by_cases hil : i < (grpW I W L nL (atI I y)).length
            · have hii : (i : Int) < ((grpW I W L nL (atI I y)).length : Int) := by omega
              obtain ⟨q, hq, hyn2, hqn, hleast⟩ := hit_least HRu.out HRv.out HNH.out (by rw [← HnU.out]; exact hlt2) hy (c := i) (by rw [hwq, ec]; exact hcut) (by rw [hwq, ec]; exact hil)
              rw [hwq, ec] at hq
              obtain ⟨gC, oC, rfl, hcC⟩ := Row.at (d := 0) HR2.out rfl hil
              have hbC := b2 _ rfl
              have cq := hcC i hil
              change _ = some (Value.int .i64 (atI (grpW I W L nL (atI I y)) i)) at cq
              rw [hq] at cq
              have hG1 : Graph V.drew gb NU SS N I W n G := HGr.out.keep (Below.drew HBV.out)
              have hZ1 : V.drew.heap[w.heap.size]? = some (.cells #[.int .u8 0, .int .u64 0, .string { data := #[] }, .int .u8 0, .int .u64 0, .string { data := #[] }] 42) := (HBV.out.block w.heap.size (by rw [S0.out]; omega)).trans HZ.out
              have BD : Below W0.heap.size W0 V.drew := Below.drew HBV.out
              have hne : w.heap.size ≠ gC := by
                simp only at hbC
                omega
              have opy := HPS.out y hyn
              have opq := HPS.out q hqn
              obtain ⟨ky, hky⟩ : ∃ k : Int, k = (if atB W y then 119 else 114) := ⟨_, rfl⟩
              obtain ⟨xy, hxy⟩ : ∃ k : Int, k = atI NU (atI N y).toNat := ⟨_, rfl⟩
              obtain ⟨sy, hsy⟩ : ∃ k : ByteArray, k = atS SS (atI I y).toNat := ⟨_, rfl⟩
              obtain ⟨kq, hkq⟩ : ∃ k : Int, k = (if atB W q then 119 else 114) := ⟨_, rfl⟩
              obtain ⟨xq, hxq⟩ : ∃ k : Int, k = atI NU (atI N q).toNat := ⟨_, rfl⟩
              obtain ⟨sq, hsq⟩ : ∃ k : ByteArray, k = atS SS (atI I q).toNat := ⟨_, rfl⟩
              have HOY := hide (op_lit (NU := NU) (SS := SS) (N := N) (I := I) (W := W) (G := G) (gb := gb) hyn opy.1 opy.2 hky hxy hsy)
              have HOQ := hide (op_lit (NU := NU) (SS := SS) (N := N) (I := I) (W := W) (G := G) (gb := gb) hqn opq.1 opq.2 hkq hxq hsq)
              have HRET : Hid (RetConf (.returned (.agg #[.int .u8 ky, .int .u64 xy, .string sy, .int .u8 kq, .int .u64 xq, .string sq])) NU SS N I W uu vv n) := ⟨y, q, hleast, by rw [hky, hxy, hsy, hkq, hxq, hsq]⟩
              have HG1 := hide hG1
              have HZ1 := hide hZ1
              have HBD := hide BD
              clear hleast opy opq hG1 hZ1 BD hcC hcut HNH HTV HBV HVA hky hxy hsy hkq hxq hsq
              go_wp2_with fail
              go_region_held3 (fun w' => w'.cell? ⟨gC, oC + i, none⟩ = some (.int .i64 (q : Int))) (first | with_reducible assumption | go_keep)
                ((first
                  | (go_at_call_of 27 (Value.int IntKind.i64 (y : Int))
                     refine (HOY.out _ HG1.out).mono ?_
                     rintro e wa ⟨rfl, hBa⟩
                     have HG2 := hide (HG1.out.keep hBa)
                     have cqa := keepsB hBa _ _ cq
                     have HZ2 := hide ((hBa.block w.heap.size (Array.getElem?_eq_some_iff.1 HZ1.out).1).trans HZ1.out)
                     have HBa := hide (HBD.out.trans (hBa.mono HBD.out.size))
                     clear hBa)
                  | (go_at_call_of 27 (Value.int IntKind.i64 (q : Int))
                     refine (HOQ.out _ HG2.out).mono ?_
                     rintro e wb ⟨rfl, hBb⟩
                     have cqb := keepsB hBb _ _ cqa
                     have hZb := (hBb.block w.heap.size (Array.getElem?_eq_some_iff.1 HZ2.out).1).trans HZ2.out
                     have HBb := hide (HBa.out.trans (hBb.mono HBa.out.size))
                     have z0 : wb.cell? ⟨w.heap.size, 0, none⟩ = some (.int .u8 0) := cell_whole hZb rfl
                     have z1 : wb.cell? ⟨w.heap.size, 1, none⟩ = some (.int .u64 0) := cell_whole hZb rfl
                     have z2 : wb.cell? ⟨w.heap.size, 2, none⟩ = some (.string { data := #[] }) := cell_whole hZb rfl
                     have z3 : wb.cell? ⟨w.heap.size, 3, none⟩ = some (.int .u8 0) := cell_whole hZb rfl
                     have z4 : wb.cell? ⟨w.heap.size, 4, none⟩ = some (.int .u64 0) := cell_whole hZb rfl
                     have z5 : wb.cell? ⟨w.heap.size, 5, none⟩ = some (.string { data := #[] }) := cell_whole hZb rfl
                     have y0 := frozen_whole (i := 0) hZb
                     have y1 := frozen_whole (i := 1) hZb
                     have y2 := frozen_whole (i := 2) hZb
                     have y3 := frozen_whole (i := 3) hZb
                     have y4 := frozen_whole (i := 4) hZb
                     have y5 := frozen_whole (i := 5) hZb
                     clear hBb hZb)))
              obtain ⟨F, hF⟩ : ∃ F, F = ((((((wb.setCell ⟨w.heap.size, 0, none⟩ (.int .u8 ky)).setCell ⟨w.heap.size, 1, none⟩ (.int .u64 xy)).setCell ⟨w.heap.size, 2, none⟩ (.string sy)).setCell ⟨w.heap.size, 3, none⟩ (.int .u8 kq)).setCell ⟨w.heap.size, 4, none⟩ (.int .u64 xq)).setCell ⟨w.heap.size, 5, none⟩ (.string sq)) := ⟨_, rfl⟩
              have r6 := set6 z0 z1 z2 z3 z4 z5 hF
              have BF := below6 (HB0.out.trans (HBb.out.mono (by rw [S0.out]; omega))) _ _ _ _ _ _ hF
              rw [← hF]
              clear hF z0 z1 z2 z3 z4 z5 y0 y1 y2 y3 y4 y5
              rename_i hHeld
              clear hHeld
              go_wp2_with fail
              exact bodyPost_ret (v := .agg #[.int .u8 ky, .int .u64 xy, .string sy, .int .u8 kq, .int .u64 xq, .string sq]) (by simp [results, Try.results22, go_sem, r6.1, r6.2.1, r6.2.2.1, r6.2.2.2.1, r6.2.2.2.2.1, r6.2.2.2.2.2]) rfl ⟨HRET.out, BF⟩
            · have hnl : ((grpW I W L nL (atI I y)).length : Int) ≤ (i : Int) := by omega
              have HN2 := hide (HNH.out.step hy (c := i) (by rw [hwq, ec]; exact hcut) (by rw [hwq, ec]; exact hil))
              go_wp2_with fail
              exact ⟨⟨j + 1, by omega, by go_num, by omega, HBV, HTV, HN2⟩, by simp [intOf]; omega⟩
          · have ec : cand I W L (atI I y) true = grp I L nL (atI I y) := by unfold cand; rw [← HnL.out]; rfl
            have hsearch := search_any p1 _ k1 (grp I L nL (atI I y)) ((y : Int) + 1) V rfl (by have := cand_len I W L (atI I y) true; rw [ec, ← HnL.out] at this; omega) (by rw [← ec]; exact cand_rising HRv.out.rise _ _) HR1.out
            have HSE := hide hsearch
            have zl : (grp I L nL (atI I y)).length ≤ 4096 := by have := cand_len I W L (atI I y) true; rw [ec, ← HnL.out] at this; omega
            clear hsearch
            go_wp2_with fail
            rw [← hV]
            refine HSE.out.mono ?_
            rintro e w' ⟨⟨i, bf, rfl, hcut⟩, hw'⟩
            obtain rfl := hw'.symm
            clear hw' hV hr1 hr2 c1 c2 e1 e2 a0 a1 a2 HSE
            by_cases hil : i < (grp I L nL (atI I y)).length
            · have hii : (i : Int) < ((grp I L nL (atI I y)).length : Int) := by omega
              obtain ⟨q, hq, hyn2, hqn, hleast⟩ := hit_least HRu.out HRv.out HNH.out (by rw [← HnU.out]; exact hlt2) hy (c := i) (by rw [hwq, ec]; exact hcut) (by rw [hwq, ec]; exact hil)
              rw [hwq, ec] at hq
              obtain ⟨gC, oC, rfl, hcC⟩ := Row.at (d := 0) HR1.out rfl hil
              have hbC := b1 _ rfl
              have cq := hcC i hil
              change _ = some (Value.int .i64 (atI (grp I L nL (atI I y)) i)) at cq
              rw [hq] at cq
              have hG1 : Graph V.drew gb NU SS N I W n G := HGr.out.keep (Below.drew HBV.out)
              have hZ1 : V.drew.heap[w.heap.size]? = some (.cells #[.int .u8 0, .int .u64 0, .string { data := #[] }, .int .u8 0, .int .u64 0, .string { data := #[] }] 42) := (HBV.out.block w.heap.size (by rw [S0.out]; omega)).trans HZ.out
              have BD : Below W0.heap.size W0 V.drew := Below.drew HBV.out
              have hne : w.heap.size ≠ gC := by
                simp only at hbC
                omega
              have opy := HPS.out y hyn
              have opq := HPS.out q hqn
              obtain ⟨ky, hky⟩ : ∃ k : Int, k = (if atB W y then 119 else 114) := ⟨_, rfl⟩
              obtain ⟨xy, hxy⟩ : ∃ k : Int, k = atI NU (atI N y).toNat := ⟨_, rfl⟩
              obtain ⟨sy, hsy⟩ : ∃ k : ByteArray, k = atS SS (atI I y).toNat := ⟨_, rfl⟩
              obtain ⟨kq, hkq⟩ : ∃ k : Int, k = (if atB W q then 119 else 114) := ⟨_, rfl⟩
              obtain ⟨xq, hxq⟩ : ∃ k : Int, k = atI NU (atI N q).toNat := ⟨_, rfl⟩
              obtain ⟨sq, hsq⟩ : ∃ k : ByteArray, k = atS SS (atI I q).toNat := ⟨_, rfl⟩
              have HOY := hide (op_lit (NU := NU) (SS := SS) (N := N) (I := I) (W := W) (G := G) (gb := gb) hyn opy.1 opy.2 hky hxy hsy)
              have HOQ := hide (op_lit (NU := NU) (SS := SS) (N := N) (I := I) (W := W) (G := G) (gb := gb) hqn opq.1 opq.2 hkq hxq hsq)
              have HRET : Hid (RetConf (.returned (.agg #[.int .u8 ky, .int .u64 xy, .string sy, .int .u8 kq, .int .u64 xq, .string sq])) NU SS N I W uu vv n) := ⟨y, q, hleast, by rw [hky, hxy, hsy, hkq, hxq, hsq]⟩
              have HG1 := hide hG1
              have HZ1 := hide hZ1
              have HBD := hide BD
              clear hleast opy opq hG1 hZ1 BD hcC hcut HNH HTV HBV HVA hky hxy hsy hkq hxq hsq
              go_wp2_with fail
              go_region_held3 (fun w' => w'.cell? ⟨gC, oC + i, none⟩ = some (.int .i64 (q : Int))) (first | with_reducible assumption | go_keep)
                ((first
                  | (go_at_call_of 27 (Value.int IntKind.i64 (y : Int))
                     refine (HOY.out _ HG1.out).mono ?_
                     rintro e wa ⟨rfl, hBa⟩
                     have HG2 := hide (HG1.out.keep hBa)
                     have cqa := keepsB hBa _ _ cq
                     have HZ2 := hide ((hBa.block w.heap.size (Array.getElem?_eq_some_iff.1 HZ1.out).1).trans HZ1.out)
                     have HBa := hide (HBD.out.trans (hBa.mono HBD.out.size))
                     clear hBa)
                  | (go_at_call_of 27 (Value.int IntKind.i64 (q : Int))
                     refine (HOQ.out _ HG2.out).mono ?_
                     rintro e wb ⟨rfl, hBb⟩
                     have cqb := keepsB hBb _ _ cqa
                     have hZb := (hBb.block w.heap.size (Array.getElem?_eq_some_iff.1 HZ2.out).1).trans HZ2.out
                     have HBb := hide (HBa.out.trans (hBb.mono HBa.out.size))
                     have z0 : wb.cell? ⟨w.heap.size, 0, none⟩ = some (.int .u8 0) := cell_whole hZb rfl
                     have z1 : wb.cell? ⟨w.heap.size, 1, none⟩ = some (.int .u64 0) := cell_whole hZb rfl
                     have z2 : wb.cell? ⟨w.heap.size, 2, none⟩ = some (.string { data := #[] }) := cell_whole hZb rfl
                     have z3 : wb.cell? ⟨w.heap.size, 3, none⟩ = some (.int .u8 0) := cell_whole hZb rfl
                     have z4 : wb.cell? ⟨w.heap.size, 4, none⟩ = some (.int .u64 0) := cell_whole hZb rfl
                     have z5 : wb.cell? ⟨w.heap.size, 5, none⟩ = some (.string { data := #[] }) := cell_whole hZb rfl
                     have y0 := frozen_whole (i := 0) hZb
                     have y1 := frozen_whole (i := 1) hZb
                     have y2 := frozen_whole (i := 2) hZb
                     have y3 := frozen_whole (i := 3) hZb
                     have y4 := frozen_whole (i := 4) hZb
                     have y5 := frozen_whole (i := 5) hZb
                     clear hBb hZb)))
              obtain ⟨F, hF⟩ : ∃ F, F = ((((((wb.setCell ⟨w.heap.size, 0, none⟩ (.int .u8 ky)).setCell ⟨w.heap.size, 1, none⟩ (.int .u64 xy)).setCell ⟨w.heap.size, 2, none⟩ (.string sy)).setCell ⟨w.heap.size, 3, none⟩ (.int .u8 kq)).setCell ⟨w.heap.size, 4, none⟩ (.int .u64 xq)).setCell ⟨w.heap.size, 5, none⟩ (.string sq)) := ⟨_, rfl⟩
              have r6 := set6 z0 z1 z2 z3 z4 z5 hF
              have BF := below6 (HB0.out.trans (HBb.out.mono (by rw [S0.out]; omega))) _ _ _ _ _ _ hF
              rw [← hF]
              clear hF z0 z1 z2 z3 z4 z5 y0 y1 y2 y3 y4 y5
              rename_i hHeld
              clear hHeld
              go_wp2_with fail
              exact bodyPost_ret (v := .agg #[.int .u8 ky, .int .u64 xy, .string sy, .int .u8 kq, .int .u64 xq, .string sq]) (by simp [results, Try.results22, go_sem, r6.1, r6.2.1, r6.2.2.1, r6.2.2.2.1, r6.2.2.2.2.1, r6.2.2.2.2.2]) rfl ⟨HRET.out, BF⟩
            · have hnl : ((grp I L nL (atI I y)).length : Int) ≤ (i : Int) := by omega
              have HN2 := hide (HNH.out.step hy (c := i) (by rw [hwq, ec]; exact hcut) (by rw [hwq, ec]; exact hil))
              go_wp2_with fail
              exact ⟨⟨j + 1, by omega, by go_num, by omega, HBV, HTV, HN2⟩, by simp [intOf]; omega⟩
        · obtain rfl : nU = j := by omega
          obtain ⟨p, q, hcf⟩ := HCF.out
          refine absurd hcf (nohit_none HRu.out HRv.out ?_)
          rw [← HnU.out]
          exact HNH.out

/-- earliestConflict. -/
theorem ec_any {w : World} {gb : Nat} {NU : List Int} {SS : List ByteArray} {N I : List Int} {W : List Bool} {n : Nat} {G : List (List Int)} (hG : Graph w gb NU SS N I W n G) {uu vv : Nat} (hu : uu < G.length) (hv : vv < G.length)
    (ru : NodeRow N n uu (atL G uu)) (rv : NodeRow N n vv (atL G vv)) (lu : (atL G uu).length ≤ 4096) (lv : (atL G vv).length ≤ 4096)
    (hps : ∀ p, p < n → (0 ≤ atI N p ∧ atI N p < NU.length) ∧ 0 ≤ atI I p ∧ atI I p < SS.length) (hSS : SS.length ≤ 4096) (hn : n ≤ 4096) (hcf : ∃ p q, Conf N I W uu vv n p q) :
    Calls Try.prog 22 #[.pointer (some ⟨gb, 0, none⟩), .int .i64 (uu : Int), .int .i64 (vv : Int)] w fun e w' => RetConf e NU SS N I W uu vv n ∧ Below w.heap.size w w' := by
  obtain ⟨p0, p1, pA, p5, c0, c1, cA, c5, _, _, ⟨h2, r2⟩, h3, r3⟩ := id hG
  rcases r3 with r3 | ⟨b5, o5, A, C, rfl, r3⟩
  · rw [r3] at hu
    simp at hu
  obtain ⟨hL, hRL⟩ := r3 vv hv
  obtain ⟨hU, hRU⟩ := r3 uu hu
  exact ec_raw gb b5 o5 G.length c5 _ (C vv) _ (C uu) uu vv (A vv) (A uu) pA n cA w NU SS N I W (atL G vv) (atL G uu) G hG h2 h3 hL (by omega) rfl lv hRL r2 hU (by omega) rfl lu hRU ru rv hps hcf
    (fun y hy => WalkArith.wf_i64 (by have := hps y hy; omega)) hn
end Go.Proofs.Qxb6619273a
