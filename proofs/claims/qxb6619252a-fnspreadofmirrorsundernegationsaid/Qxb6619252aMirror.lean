import Derived.Test.Qxb6619252aLaw0
namespace Go.Proofs.Qxb6619252a
open Go.RowKit
attribute [local go_sem] run_store_float

theorem run_neg_float {P : Program} (w : World) (x : Nat) : (Op.unary .neg (.float .f64 x)).run P w = .ok (.float .f64 (negF x)) w := rfl
attribute [local go_sem] run_neg_float

theorem num_of_walk {x : Nat} (h : FloatKind.f64.format.order x x = some .eq) : isNum x := by
  refine Classical.byContradiction fun hn => ?_
  have e : ord x x = none := order_nan (.inl hn)
  have h' : ord x x = some .eq := h
  rw [e] at h'
  cases h'

theorem lt_of_walk {x y : Nat} (h : FloatKind.f64.format.order x y = some .lt) : ltF x y = true := by
  have h' : ord x y = some .lt := h
  unfold ltF lssF
  rw [h']
  simp

theorem ge_of_walk {x y : Nat} (hx : isNum x) (h : ¬ FloatKind.f64.format.order x y = some .lt) : ltF x y = false := by
  have h' : ¬ ord x y = some .lt := h
  rw [ltF_false]
  by_cases hy : isNum y
  · rw [order_num hx hy] at h'
    simp [Int.compare_eq_lt] at h'
    exact .inr ⟨hx, hy, by omega⟩
  · exact .inl hy

theorem own_cell {w : World} {base e g n cap : Nat} {xs : List Value} (h : w.ownsRow base e 1 (.slice (some ⟨g, 0, none⟩) n cap) n xs) (j : Nat) (hj : j < n) : ∃ v, w.cell? ⟨g, j, none⟩ = some v := by
  have hx := h.1
  exact ⟨xs[j]'(by omega), by rw [h.cellAt j (by omega), List.getElem?_eq_getElem]⟩

/-- lo and hi are the least and the greatest of the first k. -/
def Ext (zs : List Nat) (k lo hi : Nat) : Prop := lo ∈ zs ∧ hi ∈ zs ∧ (∀ j, j < k → ltF (fig zs j) lo = false) ∧ (∀ j, j < k → ltF hi (fig zs j) = false)

theorem Ext.step {zs : List Nat} {k lo hi : Nat} {b1 b2 : Bool} (h : Ext zs k lo hi) (hk : k < zs.length) (hn : ∀ x ∈ zs, isNum x)
    (g1 : (FloatKind.f64.format.order (fig zs k) lo == some .lt) = b1) (g2 : (FloatKind.f64.format.order (fig zs k) hi == some .gt) = b2) :
    Ext zs (k + 1) (bif b1 then fig zs k else lo) (bif b2 then fig zs k else hi) := by
  have g1' : (ord (fig zs k) lo == some .lt) = b1 := g1
  have g2' : (ord (fig zs k) hi == some .gt) = b2 := g2
  clear g1 g2
  obtain ⟨m1, m2, l1, l2⟩ := h
  have mz := fig_mem hk
  have nz := hn _ mz
  have n1 := hn _ m1
  have n2 := hn _ m2
  rw [order_num nz n1] at g1'
  rw [order_num nz n2] at g2'
  have num : ∀ j, j < k → isNum (fig zs j) := fun j hj => hn _ (fig_mem (by omega))
  have lt : ∀ x y, isNum x → isNum y → (ltF x y = false ↔ key y ≤ key x) := fun x y hx hy => by rw [ltF_false]; simp [hx, hy]
  refine ⟨?_, ?_, fun j hj => ?_, fun j hj => ?_⟩
  · cases b1 <;> assumption
  · cases b2 <;> assumption
  · rcases Nat.lt_or_ge j k with hlt | hge
    · have a := (lt _ _ (num j hlt) n1).1 (l1 j hlt)
      cases b1
      · exact l1 j hlt
      · have c : key (fig zs k) < key lo := by simpa [Int.compare_eq_lt] using g1'
        exact (lt _ _ (num j hlt) nz).2 (by omega)
    · obtain rfl : j = k := by omega
      cases b1
      · have c : ¬ key (fig zs j) < key lo := by simpa [Int.compare_eq_lt] using g1'
        exact (lt _ _ nz n1).2 (by omega)
      · exact (lt _ _ nz nz).2 (by omega)
  · rcases Nat.lt_or_ge j k with hlt | hge
    · have a := (lt _ _ n2 (num j hlt)).1 (l2 j hlt)
      cases b2
      · exact l2 j hlt
      · have c : key hi < key (fig zs k) := by simpa [Int.compare_eq_gt] using g2'
        exact (lt _ _ nz (num j hlt)).2 (by omega)
    · obtain rfl : j = k := by omega
      cases b2
      · have c : ¬ key hi < key (fig zs j) := by simpa [Int.compare_eq_gt] using g2'
        exact (lt _ _ n2 nz).2 (by omega)
      · exact (lt _ _ nz nz).2 (by omega)

def Negs (vs : List Value) (zs : List Nat) (k : Nat) : Prop := ∀ j, j < k → vs[j]? = some (.float .f64 (negF (fig zs j)))

theorem Negs.store {vs : List Value} {zs : List Nat} {q n : Nat} (h : Negs vs zs q) (hl : vs.length = n * 1) (hq : q < n) : Negs (vs.set q (.float .f64 (negF (fig zs q)))) zs (q + 1) := by
  intro j hj
  by_cases e : j = q
  · subst e
    rw [List.getElem?_set_self (by omega)]
  · rw [List.getElem?_set_ne (fun h => e h.symm)]
    exact h j (by omega)

theorem Negs.figs {w : World} {base g n : Nat} {vs : List Value} {zs : List Nat} (h : Negs vs zs n) (hn : n = zs.length) (ho : w.ownsRow base 24 1 (.slice (some ⟨g, 0, none⟩) n n) n vs) : IsFigs w (some ⟨g, 0, none⟩) (zs.map negF) := by
  refine .inr ⟨g, 0, rfl, fun j hj => ?_⟩
  have hj' : j < n := by rw [hn]; simpa using hj
  rw [Nat.zero_add, ho.cellAt j (by omega), h j hj', fig_map _ _ _ (by omega)]

theorem fig_mem_all {zs : List Nat} {p : Nat → Prop} {n : Nat} (hn : n = zs.length) (h : ∀ j, j < n → p (fig zs j)) : ∀ x ∈ zs, p x := fun x hx => by
  obtain ⟨j, hj, e⟩ := List.getElem_of_mem hx
  have := h j (by omega)
  have e' : fig zs j = x := by unfold fig; simp [List.getD, hj, e]
  rwa [e'] at this

theorem spread_m (p : Option Addr) (cap n : Nat) (zs : List Nat) (hn : n = zs.length) (hlen : n ≤ 2097152) (h1 : 1 ≤ n) (w : World) (h : IsFigs w p zs) :
    Calls Try.prog 8 #[.slice p n cap] w fun e w' => RetSpread e (sortedOf zs) n ∧ Below w.heap.size w w' := by
  subst hn
  exact spreadOf_any p cap zs hlen (fun e => by subst e; simp at h1) w h.figs

theorem mirror_law {zs : List Nat} {lo hi n m m' : Nat} (hn : n = zs.length) (hn1 : 1 ≤ n) (hN : ∀ j, j < n → isNum (fig zs j)) (hE : Ext zs n lo hi)
    (hm : MedOf (fig (sortedOf zs) ((n - 1) / 2)) (fig (sortedOf zs) (n / 2)) m)
    (hm' : MedOf (fig (sortedOf (zs.map negF)) ((n - 1) / 2)) (fig (sortedOf (zs.map negF)) (n / 2)) m') :
    sameF (fig (sortedOf zs) 0) lo = true ∧ sameF (fig (sortedOf zs) (n - 1)) hi = true ∧
      sameF (fig (sortedOf (zs.map negF)) 0) (negF (fig (sortedOf zs) (n - 1))) = true ∧
      sameF (fig (sortedOf (zs.map negF)) (n - 1)) (negF (fig (sortedOf zs) 0)) = true ∧ sameF m' (negF m) = true := by
  have hnum := fig_mem_all hn hN
  obtain ⟨e1, e2, e3, e4⟩ := hE
  have l1 := fig_mem_all (p := fun x => ltF x lo = false) hn e3
  have l2 := fig_mem_all (p := fun x => ltF hi x = false) hn e4
  have irr : ∀ x, ltF x x = false := fun x => by rw [ltF_false]; by_cases h : isNum x <;> simp [h]
  refine ⟨(sameF_iff _ _).2 ?_, (sameF_iff _ _).2 ?_, (sameF_iff _ _).2 ?_, (sameF_iff _ _).2 ?_, (sameF_iff _ _).2 ?_⟩
  · refine Rel.symm (rank_is (by omega) ?_ ?_)
    · rw [Nat.le_zero, List.countP_eq_zero]
      intro x hx
      simp [l1 x hx]
    · rw [List.countP_pos_iff]
      exact ⟨lo, e1, by simp [irr]⟩
  · refine Rel.symm (rank_is (by omega) ?_ ?_)
    · have h1 : zs.countP (fun y => ltF y hi) ≠ zs.length := fun e => by
        have := List.countP_eq_length.1 e hi e2
        rw [irr] at this
        cases this
      have h2 : zs.countP (fun y => ltF y hi) ≤ zs.length := List.countP_le_length
      omega
    · have h1 : zs.countP (fun y => !ltF hi y) = zs.length := List.countP_eq_length.2 fun x hx => by simp [l2 x hx]
      omega
  · have r := sorted_mirror hnum (i := 0) (by omega)
    rw [← hn, Nat.sub_zero] at r
    exact Rel.trans r.symm (rel_negF _)
  · have r := sorted_mirror hnum (i := n - 1) (by omega)
    rw [← hn, Nat.sub_self] at r
    exact Rel.trans r.symm (rel_negF _)
  · have r1 := sorted_mirror hnum (i := (n - 1) / 2) (by omega)
    have r2 := sorted_mirror hnum (i := n / 2) (by omega)
    rw [← hn, show n - 1 - (n - 1) / 2 = n / 2 by omega] at r1
    rw [← hn, show n - 1 - n / 2 = (n - 1) / 2 by omega] at r2
    have r := MedOf.rel r1 r2 hm.comm hm'
    exact Rel.trans r.symm (rel_negF _)

set_option maxHeartbeats 4000000 in
set_option maxRecDepth 100000 in
theorem mirror_walk (p : Option Addr) (cap : Nat) (zs : List Nat) (w : World) (h : IsFigs w p zs) (hp : p = none → zs = []) :
    Calls Try.prog 5 #[.slice p zs.length cap] w fun e w' => e = .returned (.bool true) ∧ Below w.heap.size w w' := by
  obtain ⟨i0, hi0, hz0, hz1, hz2⟩ := info_parts Try.info24
  have H := hide h
  clear h
  obtain ⟨n, hn⟩ : ∃ n, n = zs.length := ⟨_, rfl⟩
  rw [← hn]
  have HN := hide hn
  have HP := hide hp
  clear hn hp
  go_enter Try.func5, Try.ntmps5
  go_wp2_with fail
  refine (zzBytes5_any _ _ _ _ rfl _).mono ?_
  rintro e w' ⟨⟨b, rfl⟩, hw⟩
  obtain rfl := hw.symm
  clear hw
  cases b
  · go_wp2
    go_ret
    exact ⟨rfl, Below.refl _ _⟩
  by_cases hbig : n ≤ 65536
  · cases p with
    | none =>
      obtain rfl : 0 = n := by rw [HN.out, HP.out rfl]; rfl
      go_wp2
      go_ret
      exact ⟨rfl, Below.refl _ _⟩
    | some x =>
      have HSRC := hide (figs_src H.out)
      by_cases h0 : n = 0
      · obtain rfl : 0 = n := by omega
        go_wp2_with (first
          | (at_make; refine wpList_make_full _ rfl _ _ 22 rfl w.heap.size 24 i0 (.float .f64 0) 1 Try.underlying22 hi0 hz0 hz1 .i64 .i64 _ _ 0 rfl rfl rfl rfl (by rw [hz2]; omega) (by unfold maxLen; omega) (Nat.le_refl _) ?_; intro w1 hown hgrow; have hB1 : Below w.heap.size w w1 := (Below.refl _ _).grown hgrow (Nat.le_refl _) (fun k hk => by cases hk); obtain ⟨cur, hcur, hcl⟩ := own_block hown; have HCUR := hide hcur; have HCL := hide hcl; have HB1 := hide hB1; clear hown hgrow hcur hcl hB1)
          | (with_reducible refine at_copy (.tmp 23) (.tmp 24) 22 22 rfl ?_; refine wpList_copy_splice rfl (.tmp 23) (.tmp 24) 22 22 rfl 24 Try.underlying22 Try.size24 (some ⟨w.heap.size, 0, none⟩) (some x) 0 0 0 cap rfl rfl w.heap.size 0 cur 24 HCUR.out (zs.map encF) (by rw [List.length_map, ← HN.out]; exact (Nat.min_self 0).symm) (fun _ => ⟨rfl, x, rfl, fun j v hv => keepsB HB1.out _ _ (HSRC.out j v hv)⟩) (by rw [List.length_map, HCL.out, ← HN.out]; omega) (all_float zs) w.heap.size w HB1.out (Nat.le_refl _) ?_; intro w2 HG2 hB2; have HB2 := hide hB2; clear hB2 HG2))
        go_ret
        exact ⟨rfl, HB2.out⟩
      · have hn1 : 1 ≤ n := by omega
        go_wp2_with (first
          | (at_make; refine wpList_make_full _ rfl _ _ 22 rfl w.heap.size 24 i0 (.float .f64 0) 1 Try.underlying22 hi0 hz0 hz1 .i64 .i64 _ _ n rfl rfl rfl rfl (by rw [hz2]; omega) (by unfold maxLen; omega) (Nat.le_refl _) ?_; intro w1 hown hgrow; have hB1 : Below w.heap.size w w1 := (Below.refl _ _).grown hgrow (Nat.le_refl _) (fun k hk => by cases hk); obtain ⟨cur, hcur, hcl⟩ := own_block hown; have HCUR := hide hcur; have HCL := hide hcl; have HB1 := hide hB1; clear hown hgrow hcur hcl hB1)
          | (with_reducible refine at_copy (.tmp 23) (.tmp 24) 22 22 rfl ?_; refine wpList_copy_splice rfl (.tmp 23) (.tmp 24) 22 22 rfl 24 Try.underlying22 Try.size24 (some ⟨w.heap.size, 0, none⟩) (some x) n n n cap rfl rfl w.heap.size 0 cur 24 HCUR.out (zs.map encF) (by rw [List.length_map, ← HN.out]; exact (Nat.min_self n).symm) (fun _ => ⟨rfl, x, rfl, fun j v hv => keepsB HB1.out _ _ (HSRC.out j v hv)⟩) (by rw [List.length_map, HCL.out, ← HN.out]; omega) (all_float zs) w.heap.size w HB1.out (Nat.le_refl _) ?_; intro w2 HG2 hB2; have HOWN := hide (copied HG2.out (HCL.out.trans HN.out) (Nat.le_refl _) (by rw [← HN.out]; unfold maxLen; omega)); have HB2 := hide hB2; clear hB2 HG2))
        have HF := hide (own_figs HOWN.out)
        clear HSRC HCUR HCL HB1 H HOWN
        go_loopw [5] (fun x wr => ∃ (k m : Nat), k ≤ n ∧ x = .int .i64 k ∧ wr = w2.drewN m ∧ Hid (∀ j, j < k → isNum (fig zs j))) (fun x _ => n - (intOf x).toNat)
        case atStart => exact ⟨0, 0, Nat.zero_le _, rfl, rfl, fun j hj => absurd hj (Nat.not_lt_zero j)⟩
        case round =>
          obtain ⟨k, m, hk, rfl, hwr, HL⟩ := hrel
          obtain rfl := hwr.symm
          clear hwr
          by_cases hlt : k < n
          · have e1 : w2.cell? ⟨w.heap.size, k, none⟩ = some (.float .f64 (fig zs k)) := HF.out.at HN.out hlt
            go_wp2_with fail
            go_quiet (fail)
            go_wp2_with fail
            case roundEnd =>
              rename_i g1
              refine ⟨⟨k + 1, _, by omega, by go_num, rfl, fun j hj => ?_⟩, by simp [intOf]; omega⟩
              rcases Nat.lt_or_ge j k with hlt' | hge
              · exact HL.out j hlt'
              · obtain rfl : j = k := by omega
                exact num_of_walk (by simpa using g1)
            go_ret
            exact ⟨rfl, below_drewN (below_drewN HB2.out _) _⟩
          · obtain rfl : n = k := by omega
            clear hlt hk
            have HBW := hide (below_drewN HB2.out m)
            have HFW := hide (HF.out.keep (below_drewN (Below.refl _ _) m))
            obtain ⟨W, hW⟩ : ∃ W, W = w2.drewN m := ⟨_, rfl⟩
            rw [← hW] at HBW HFW ⊢
            clear hW HF HB2
            have c0 := HFW.out.at HN.out (k := 0) (by omega)
            have hlt : w.heap.size < W.heap.size := cell_lt c0
            have i2 : (0 : Int) < (n : Int) := by omega
            go_wp2_with (at_make; refine wpList_make_full _ rfl _ _ 22 rfl W.heap.size 24 i0 (.float .f64 0) 1 Try.underlying22 hi0 hz0 hz1 .i64 .i64 _ _ n rfl rfl rfl rfl (by rw [hz2]; omega) (by unfold maxLen; omega) (Nat.le_refl _) ?_; intro w4 hown hgrow; have hB4 : Below W.heap.size W w4 := (Below.refl _ _).grown hgrow (Nat.le_refl _) (fun k hk => by cases hk); have c4 := keepsB hB4 _ _ c0; have HO4 := hide hown; have HB4 := hide hB4; clear hown hgrow hB4 c0)
            go_loopw [7, 8, 9] (fun a b x wr => ∃ (k lo hi : Nat) (vs : List Value), k ≤ n ∧ x = .int .i64 k ∧ a = .float .f64 lo ∧ b = .float .f64 hi ∧ Hid (wr.ownsRow W.heap.size 24 1 (.slice (some ⟨W.heap.size, 0, none⟩) n n) n vs) ∧ Hid (Below W.heap.size W wr) ∧ Hid (Negs vs zs k) ∧ Hid (Ext zs k lo hi)) (fun _ _ x _ => n - (intOf x).toNat)
            case atStart => exact ⟨0, _, _, _, Nat.zero_le _, rfl, rfl, rfl, HO4, HB4, fun j hj => absurd hj (Nat.not_lt_zero j), fig_mem (by rw [← HN.out]; omega), fig_mem (by rw [← HN.out]; omega), fun j hj => absurd hj (Nat.not_lt_zero j), fun j hj => absurd hj (Nat.not_lt_zero j)⟩
            case round =>
              clear HO4 HB4 c4
              obtain ⟨k, lo, hi, vs, hk, rfl, rfl, rfl, HO, HB, HNG, HX⟩ := hrel
              by_cases hlt2 : k < n
              · have e1 : wr.cell? _ = _ := keepsB HB.out _ _ (HFW.out.at HN.out hlt2)
                obtain ⟨v6, e6⟩ := own_cell HO.out k hlt2
                have f6 := HO.out.frozenAt k
                have hz := HL.out k hlt2
                have S6 := hide (HO.out.stored k (.float .f64 (negF (fig zs k))))
                have HN6 := hide (HNG.out.store HO.out.1 hlt2)
                have HB6 : Hid (Below W.heap.size W (wr.setCell ⟨W.heap.size, k, none⟩ (.float .f64 (negF (fig zs k))))) := HB.out.setCell (Nat.le_refl _) _
                have hne : ¬ w.heap.size = W.heap.size := by omega
                go_wp2_with fail
                all_goals
                  rename_i g1 g2
                  exact ⟨⟨k + 1, _, _, _, by omega, by go_num, rfl, rfl, S6.out.1, HB6, HN6, HX.out.step (by rw [← HN.out]; exact hlt2) (fig_mem_all HN.out HL.out) g1 g2⟩, by simp [intOf]; omega⟩
              · obtain rfl : n = k := by omega
                clear hlt2 hk
                have HF0 := hide (HFW.out.keep HB.out)
                have HF2 := hide (HNG.out.figs HN.out HO.out)
                have HBX := hide (HBW.out.trans (HB.out.mono HBW.out.size))
                have HNM : Hid (n = (zs.map negF).length) := by rw [List.length_map]; exact HN
                obtain ⟨ns, hns⟩ : ∃ ns, ns = zs.map negF := ⟨_, rfl⟩
                rw [← hns] at HNM HF2
                have HNS := hide hns
                obtain ⟨g1, hg1⟩ : ∃ g1, g1 = W.heap.size := ⟨_, rfl⟩
                rw [← hg1] at HF2 ⊢
                clear hg1 hns HB HO HNG HFW HBW
                go_wp2_with fail
                refine (spread_m _ _ _ zs HN.out (by omega) hn1 _ HF0.out).mono ?_
                rintro e w6 ⟨⟨m, rfl, hm⟩, hb6⟩
                have HM := hide hm
                have HB6 := hide hb6
                have HF3 := hide (HF2.out.keep hb6)
                clear hm hb6 HF2 HF0
                obtain ⟨A, hA⟩ : ∃ A, A = fig (sortedOf zs) 0 := ⟨_, rfl⟩
                obtain ⟨B, hB⟩ : ∃ B, B = fig (sortedOf zs) (n - 1) := ⟨_, rfl⟩
                rw [← hA, ← hB]
                have HA := hide hA
                have HBB := hide hB
                clear hA hB
                obtain ⟨w7, hw7⟩ : ∃ w7, w7 = w6.alloc (.cells #[.float .f64 m, .float .f64 A, .float .f64 B] 27) := ⟨_, rfl⟩
                have hb7 : Below w6.heap.size w6 w7 := by rw [hw7]; exact (Below.refl _ _).alloc (Nat.le_refl _) _
                have c70 : w7.cell? ⟨w6.heap.size, 0, none⟩ = some (.float .f64 m) := by rw [hw7, World.cell?_alloc_at _ _ _ _ rfl]; rfl
                have c71 : w7.cell? ⟨w6.heap.size, 1, none⟩ = some (.float .f64 A) := by rw [hw7, World.cell?_alloc_at _ _ _ _ rfl]; rfl
                have c72 : w7.cell? ⟨w6.heap.size, 2, none⟩ = some (.float .f64 B) := by rw [hw7, World.cell?_alloc_at _ _ _ _ rfl]; rfl
                have HF7 := hide (HF3.out.keep hb7)
                have HB7 := hide (HB6.out.trans (hb7.mono HB6.out.size))
                have HC7 := hide (And.intro c70 (And.intro c71 c72))
                clear hb7 c70 c71 c72 HF3 HB6
                go_wp2_with fail
                rw [← hw7]
                clear hw7
                refine (spread_m _ _ _ ns HNM.out (by omega) (by omega) _ HF7.out).mono ?_
                rintro e w8 ⟨⟨m2, rfl, hm⟩, hb8⟩
                have HS := hide (mirror_law HN.out hn1 HL.out HX.out HM.out (by rw [← HNS.out]; exact hm))
                obtain ⟨C, hC⟩ : ∃ C, C = fig (sortedOf ns) 0 := ⟨_, rfl⟩
                obtain ⟨D, hD⟩ : ∃ D, D = fig (sortedOf ns) (n - 1) := ⟨_, rfl⟩
                rw [← HNS.out, ← hC, ← hD, ← HA.out, ← HBB.out] at HS
                rw [← hC, ← hD]
                clear hC hD hm HM HL HF7 HA HBB HX HNM HNS
                have c80 := keepsB hb8 _ _ HC7.out.1
                have c81 := keepsB hb8 _ _ HC7.out.2.1
                have c82 := keepsB hb8 _ _ HC7.out.2.2
                have HB8 := hide (HBX.out.trans ((HB7.out.trans (hb8.mono HB7.out.size)).mono HBX.out.size))
                have hne : w6.heap.size < w8.heap.size := cell_lt c80
                clear HB7 hb8 HC7 HBX
                go_wp2_with fail
                refine (zzSame_any _ _ _).mono ?_
                rintro e w9 ⟨rfl, hw9⟩
                obtain rfl := hw9.symm
                clear hw9
                rw [HS.out.1]
                go_wp2_with fail
                refine (zzSame_any _ _ _).mono ?_
                rintro e w9 ⟨rfl, hw9⟩
                obtain rfl := hw9.symm
                clear hw9
                rw [HS.out.2.1]
                go_wp2_with fail
                refine (zzSame_any _ _ _).mono ?_
                rintro e w9 ⟨rfl, hw9⟩
                obtain rfl := hw9.symm
                clear hw9
                rw [HS.out.2.2.1]
                go_wp2_with fail
                refine (zzSame_any _ _ _).mono ?_
                rintro e w9 ⟨rfl, hw9⟩
                obtain rfl := hw9.symm
                clear hw9
                rw [HS.out.2.2.2.1]
                go_wp2_with fail
                refine (zzSame_any _ _ _).mono ?_
                rintro e w9 ⟨rfl, hw9⟩
                obtain rfl := hw9.symm
                clear hw9
                rw [HS.out.2.2.2.2]
                go_wp2_with fail
                go_ret
                exact ⟨rfl, HB8.out.alloc HB8.out.size _⟩
  · go_wp2
    go_ret
    exact ⟨rfl, Below.refl _ _⟩
end Go.Proofs.Qxb6619252a
