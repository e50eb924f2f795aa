import Derived.Test.Qxb6618387aLeaves
import Derived.Deep.Slices
import Derived.Deep.RegionHeld3
import Derived.Deep.DrawnRows
namespace Go.Proofs.Qxb6618387a
open Go.RowKit
attribute [local go_sem ↓] Go.wp_at_zero Go.wp_at_succ

theorem Try.info27 : (Try.prog.info? 27).map (fun i => (i.zero, i.size, i.bytes)) = some (some (.slice none 0 0), 1, 24) := by kernel_rfl

/-- The first k slice values of a list of files, as cells. -/
def Vals (w : World) (vs : List Value) (gs : List (List Int)) (k : Nat) : Prop :=
  vs.length = k ∧ ∀ j, j < k → ∃ A L C, vs[j]? = some (.slice A L C) ∧ IsBytes w A L (fileAt gs j)

theorem Vals.nil (w : World) (gs : List (List Int)) : Vals w [] gs 0 := ⟨rfl, fun j hj => absurd hj (Nat.not_lt_zero j)⟩

theorem Vals.snoc {w : World} {vs : List Value} {gs : List (List Int)} {k : Nat} (h : Vals w vs gs k) {A : Option Addr} {L C : Nat} (hb : IsBytes w A L (fileAt gs k)) : Vals w (vs ++ [.slice A L C]) gs (k + 1) := by
  refine ⟨by simp [h.1], fun j hj => ?_⟩
  rcases Nat.lt_or_ge j k with hlt | hge
  · obtain ⟨A', L', C', e, g⟩ := h.2 j hlt
    exact ⟨A', L', C', by rw [List.getElem?_append_left (by rw [h.1]; exact hlt)]; exact e, g⟩
  · obtain rfl : j = k := by omega
    exact ⟨A, L, C, by rw [List.getElem?_append_right (by rw [h.1]; exact Nat.le_refl _), h.1]; simp, hb⟩

/-- A row of the call's own whose cells are such values is a list of files. -/
theorem Vals.files {w wr : World} {vs : List Value} {gs : List (List Int)} {k g cap base : Nat} (h : Vals w vs gs k) (hg : gs.length = k) (hown : wr.ownsRow base 27 1 (.slice (some ⟨g, 0, none⟩) k cap) k vs)
    (hk : ∀ a v, w.cell? a = some v → wr.cell? a = some v) : IsFiles wr (some ⟨g, 0, none⟩) k gs := by
  refine ⟨hg, .inr ?_⟩
  obtain ⟨f, hf⟩ := Go.Deep.choose_lt (α := Option Addr × Nat × Nat) (p := fun j y => vs[j]? = some (.slice y.1 y.2.1 y.2.2) ∧ IsBytes w y.1 y.2.1 (fileAt gs j)) (fun j hj => by
    obtain ⟨A, L, C, e, b⟩ := h.2 j hj
    exact ⟨(A, L, C), e, b⟩)
  refine ⟨g, 0, fun j => (f j).1, fun j => (f j).2.1, fun j => (f j).2.2, rfl, fun j hj => ⟨?_, (hf j hj).2.ext hk⟩⟩
  rw [Nat.zero_add, hown.cellAt j (by omega)]
  exact (hf j hj).1

theorem one_slice (A : Option Addr) (L C : Nat) : ∀ u ∈ [Value.slice A L C], u.oneCell' = true := by
  intro u hu; simp at hu; subst hu; rfl

theorem app_below {w wr w2 : World} {o : Obj} (h : Below w.heap.size w wr) (hg : (wr.alloc o).grownBy w2 (some w.heap.size)) : Below w.heap.size w w2 :=
  (h.alloc h.size o).grown hg (by have := h.size; simp; omega) (fun k hk => by cases hk; exact Nat.le_refl _)

theorem edit_lo {fs gs : List (List Int)} {xb : List Int} {j k : Nat} (h : gs = fs.take j ++ [xb] ++ fs.drop j) (hk : k < j) (hj : k < fs.length) : fileAt gs k = fileAt fs k := by
  subst h
  unfold fileAt
  rw [List.append_assoc]
  simp only [List.getD]
  rw [List.getElem?_append_left (by simp; omega)]
  simp [hk]

theorem edit_at {fs gs : List (List Int)} {xb : List Int} {j : Nat} (h : gs = fs.take j ++ [xb] ++ fs.drop j) (hj : j ≤ fs.length) : fileAt gs j = xb := by
  subst h
  unfold fileAt
  have e : (fs.take j).length = j := by simp; omega
  simp [List.getD, e]

theorem edit_hi {fs gs : List (List Int)} {xb : List Int} {j k : Nat} (h : gs = fs.take j ++ [xb] ++ fs.drop j) (hj : j ≤ k) (hk : j ≤ fs.length) : fileAt gs (k + 1) = fileAt fs k := by
  subst h
  unfold fileAt
  have e : (fs.take j).length = j := by simp; omega
  simp only [List.getD, List.getElem?_append, e]
  simp [e, show ¬ k + 1 < j + 1 by omega, List.getElem?_drop]
  congr 2
  omega

theorem edit_len {fs gs : List (List Int)} {xb : List Int} {j : Nat} (h : gs = fs.take j ++ [xb] ++ fs.drop j) (hk : j ≤ fs.length) : gs.length = fs.length + 1 := by
  subst h
  simp
  omega

theorem edit_ne {u : ByteArray} {fs gs : List (List Int)} {xb : List Int} {j : Nat} (h : gs = fs.take j ++ [xb] ++ fs.drop j) (hk : j ≤ fs.length) : sameB u fs u gs = false := by
  unfold sameB
  simp only [decide_eq_false_iff_not, not_and]
  intro _ e
  have := edit_len h hk
  rw [← e] at this
  omega

theorem edit_ne' {u : ByteArray} {fs gs : List (List Int)} {xb : List Int} {j : Nat} (h : gs = fs.take j ++ [xb] ++ fs.drop j) (hk : j ≤ fs.length) : sameB u gs u fs = false := by
  unfold sameB
  simp only [decide_eq_false_iff_not, not_and]
  intro _ e
  have := edit_len h hk
  rw [e] at this
  omega

theorem edit_tail (u t : ByteArray) (fs : List (List Int)) : sameB u fs (u ++ t) fs = ((t.size : Int) == 0) := by
  unfold sameB
  rw [Bool.eq_iff_iff]
  simp only [and_true, decide_eq_true_eq, beq_iff_eq]
  constructor
  · intro h
    have := congrArg ByteArray.size h
    rw [ByteArray.size_append] at this
    omega
  · intro h
    have ht : t = ByteArray.empty := by
      apply ByteArray.ext
      apply Array.eq_empty_of_size_eq_zero
      have : t.data.size = t.size := rfl
      omega
    subst ht
    simp

/-- The first q cells are the slice values of the first q files. -/
def PVals (w : World) (vs : List Value) (gs : List (List Int)) (q : Nat) : Prop :=
  ∀ j, j < q → ∃ A L C, vs[j]? = some (.slice A L C) ∧ IsBytes w A L (fileAt gs j)

theorem PVals.store {w : World} {vs : List Value} {gs : List (List Int)} {q n : Nat} (h : PVals w vs gs q) (hl : vs.length = n * 1) (hq : q < n) {A : Option Addr} {L C : Nat} (hb : IsBytes w A L (fileAt gs q)) : PVals w (vs.set q (.slice A L C)) gs (q + 1) := by
  intro j hj
  by_cases e : j = q
  · subst e
    exact ⟨A, L, C, by rw [List.getElem?_set_self (by omega)], hb⟩
  · obtain ⟨A', L', C', e', g⟩ := h j (by omega)
    exact ⟨A', L', C', by rw [List.getElem?_set_ne (fun h => e h.symm)]; exact e', g⟩

theorem PVals.edit {w : World} {vs : List Value} {gs : List (List Int)} {n k : Nat} (h : PVals w vs gs n) (hl : vs.length = n * 1) (hg : gs.length = n) {A : Option Addr} {L C : Nat} {xb : List Int} (hb : IsBytes w A L xb) : Vals w (vs.set k (.slice A L C)) (gs.set k xb) n := by
  refine ⟨by simp [hl], fun j hj => ?_⟩
  by_cases e : j = k
  · subst e
    refine ⟨A, L, C, by rw [List.getElem?_set_self (by omega)], ?_⟩
    have : fileAt (gs.set j xb) j = xb := by unfold fileAt; simp [List.getD, List.getElem?_set_self (show j < gs.length by omega)]
    rw [this]; exact hb
  · obtain ⟨A', L', C', e', g⟩ := h j hj
    refine ⟨A', L', C', by rw [List.getElem?_set_ne (fun h => e h.symm)]; exact e', ?_⟩
    have : fileAt (gs.set k xb) j = fileAt gs j := by unfold fileAt; simp only [List.getD]; rw [List.getElem?_set_ne (fun h => e h.symm)]
    rw [this]; exact g

def Keeps (w x : World) : Prop := ∀ a v, w.cell? a = some v → x.cell? a = some v

theorem keeps_drew {w x : World} (h : Below w.drew.heap.size w.drew x) : Keeps w x := fun a v hv => Below.keeps h a v hv

theorem edit_set (u : ByteArray) {fs : List (List Int)} {xb : List Int} {k : Nat} (hk : k < fs.length) : sameB u fs u (fs.set k xb) = eqB (fileAt fs k) xb := by
  unfold sameB eqB fileAt
  rw [Bool.eq_iff_iff]
  simp only [true_and, decide_eq_true_eq]
  constructor
  · intro h
    rw [h]
    simp [List.getD, hk]
  · intro h
    rw [← h]
    simp [List.getD, List.getElem?_eq_getElem hk]

theorem own_cell {w : World} {base e g n cap : Nat} {xs : List Value} (h : w.ownsRow base e 1 (.slice (some ⟨g, 0, none⟩) n cap) n xs) (j : Nat) (hj : j < n) : ∃ v, w.cell? ⟨g, j, none⟩ = some v := by
  have hx := h.1
  exact ⟨xs[j]'(by omega), by rw [h.cellAt j (by omega), List.getElem?_eq_getElem]⟩

set_option maxHeartbeats 4000000 in
set_option maxRecDepth 100000 in
theorem edit_walk (p pb : Option Addr) (n c nb cb : Nat) (u t : ByteArray) (i : Int) (fs : List (List Int)) (xb : List Int) (w : World) (h : IsFiles w p n fs) (hb : IsBytes w pb nb xb) :
    Calls Try.prog 4 #[.slice p n c, .string u, .int .i64 i, .slice pb nb cb, .string t] w fun e w' => e = .returned (.bool true) ∧ Below w.heap.size w w' := by
  have H := hide h
  have HB := hide hb
  clear h hb
  obtain ⟨i0, hi, hz0, hz1, hz2⟩ := info_parts Try.info27
  by_cases hsz : u.size + nb + t.size ≤ 1048576
  · go_enter Try.func4, Try.ntmps4
    go_wp2_with fail
    refine (zzBytesEdit_any _ _ _ _ _ _ _ _ _ _ _ H.out).mono ?_
    rintro e w' ⟨⟨b, rfl, hsm⟩, hw⟩
    obtain rfl := hw.symm
    clear hw
    have hn : b = true → n ≤ 1048576 := fun hb => hsm hb n (by simp)
    clear hsm
    cases b
    · go_wp2
      go_ret
      exact ⟨rfl, Below.refl _ _⟩
    replace hn := hn rfl
    go_wp2_with fail
    refine (filesBytes_any _ _ _ _ fs _ H.out (by omega) (by omega) hn).mono ?_
    rintro e w' ⟨⟨r, rfl, hr1, hr2⟩, hw⟩
    obtain rfl := hw.symm
    clear hw
    by_cases hr : r < 0
    · go_wp2
      go_ret
      exact ⟨rfl, Below.refl _ _⟩
    by_cases hin : 0 ≤ i ∧ i ≤ n
    · obtain ⟨hin0, hin1⟩ := hin
      obtain ⟨j, rfl⟩ : ∃ j : Nat, i = (j : Int) := ⟨i.toNat, by omega⟩
      go_wp2_with (at_make; refine wpList_make_own _ rfl _ _ 22 rfl w.heap.size 27 i0 (.slice none 0 0) 1 Try.underlying22 hi hz0 hz1 .i64 .i64 _ (n + 1) rfl rfl (by omega) (by rw [hz2]; omega) (by unfold maxLen; omega) (Nat.le_refl _) ?_; intro w1 hown hgrow)
      obtain ⟨gs, hgs⟩ : ∃ gs, gs = fs.take j ++ [xb] ++ fs.drop j := ⟨_, rfl⟩
      have HG := hide hgs
      clear hgs
      have hB0 : Below w.heap.size w w1 := (Below.refl _ _).grown hgrow (Nat.le_refl _) (fun k hk => by cases hk)
      have hws : w.heap.size < w1.heap.size := (hown.lt _ rfl).2
      clear hgrow
      go_loopw [12, 13] (fun v x wr => ∃ (k : Nat) (vs : List Value), k ≤ j ∧ x = .int .i64 k ∧ v = .slice (some ⟨w.heap.size, 0, none⟩) k (n + 1) ∧ wr.ownsRow w.heap.size 27 1 (.slice (some ⟨w.heap.size, 0, none⟩) k (n + 1)) k vs ∧ Below w.heap.size w wr ∧ Hid (Vals w vs gs k)) (fun _ x _ => j - (intOf x).toNat)
      case atStart => exact ⟨0, [], Nat.zero_le _, rfl, rfl, hown, hB0, Vals.nil _ _⟩
      case round =>
        clear hown hB0 hws
        obtain ⟨k, vs, hk, rfl, rfl, hown, hB, HV⟩ := hrel
        by_cases hlt : k < j
        · obtain ⟨hl, h | ⟨x1, o1, A1, L1, C1, rfl, h⟩⟩ := H.out
          · omega
          obtain ⟨e1, g1⟩ := h k (by omega)
          have e1 : wr.cell? _ = _ := Below.keeps hB _ _ e1
          clear h
          have HW := hide hB
          have hle : w.heap.size ≤ wr.heap.size := hB.size
          clear hB
          go_wp2_with (at_builtin; refine wpList_append_fits _ rfl (.tmp 73) (.tmp 78) 22 rfl w.heap.size 27 i0 1 Try.underlying22 hi hz1 w.heap.size k (n + 1) vs rfl (hown.alloc _) ⟨wr.heap.size, 0, none⟩ 1 1 [.slice (A1 k) (L1 k) (C1 k)] rfl rfl (cell_one_new _ _ _) (one_slice _ _ _) (by omega) ?_; intro w2 hown2 hg2)
          have hB2 : Below w.heap.size w w2 := app_below HW.out hg2
          clear hg2 hown
          go_roundw
          case rel => exact ⟨k + 1, _, by omega, by go_num, rfl, hown2, hB2, HV.out.snoc (by rw [edit_lo HG.out (by omega) (by rw [hl]; omega)]; exact g1)⟩
          case measure => simp [intOf]; omega
        · have hkj : k = j := by omega
          subst hkj
          have HW := hide hB
          have hle : w.heap.size ≤ wr.heap.size := hB.size
          clear hB
          go_wp2_with (at_builtin; refine wpList_append_fits _ rfl (.tmp 80) (.tmp 82) 22 rfl w.heap.size 27 i0 1 Try.underlying22 hi hz1 w.heap.size k (n + 1) vs rfl (hown.alloc _) ⟨wr.heap.size, 0, none⟩ 1 1 [.slice pb nb cb] rfl rfl (cell_one_new _ _ _) (one_slice _ _ _) (by omega) ?_; intro w2 hown2 hg2)
          have hB2 : Below w.heap.size w w2 := app_below HW.out hg2
          have HV2 : Hid (Vals w (vs ++ [.slice pb nb cb]) gs (k + 1)) := HV.out.snoc (by rw [edit_at HG.out (by rw [H.out.1]; omega)]; exact HB.out)
          clear hg2 hown HV HW
          go_loopw [12, 14] (fun v x wr => ∃ (k' : Nat) (vs : List Value), k ≤ k' ∧ k' ≤ n ∧ x = .int .i64 k' ∧ v = .slice (some ⟨w.heap.size, 0, none⟩) (k' + 1) (n + 1) ∧ wr.ownsRow w.heap.size 27 1 (.slice (some ⟨w.heap.size, 0, none⟩) (k' + 1) (n + 1)) (k' + 1) vs ∧ Below w.heap.size w wr ∧ Hid (Vals w vs gs (k' + 1))) (fun _ x _ => n - (intOf x).toNat)
          case atStart => exact ⟨k, _, Nat.le_refl _, by omega, rfl, rfl, hown2, hB2, HV2⟩
          case round =>
            clear hown2 hB2 HV2 hle
            obtain ⟨m, vs2, hkm, hmn, rfl, rfl, hown, hB, HV⟩ := hrel
            by_cases hlt2 : m < n
            · obtain ⟨hl, h | ⟨x1, o1, A1, L1, C1, rfl, h⟩⟩ := H.out
              · omega
              obtain ⟨e1, g1⟩ := h m (by omega)
              have e1 : wr.cell? _ = _ := Below.keeps hB _ _ e1
              clear h
              have HW := hide hB
              have hle : w.heap.size ≤ wr.heap.size := hB.size
              clear hB
              have HL := hide hl
              clear hl
              go_wp2_with (at_builtin; refine wpList_append_fits _ rfl (.tmp 91) (.tmp 96) 22 rfl w.heap.size 27 i0 1 Try.underlying22 hi hz1 w.heap.size (m + 1) (n + 1) vs2 rfl (hown.alloc _) ⟨wr.heap.size, 0, none⟩ 1 1 [.slice (A1 m) (L1 m) (C1 m)] rfl rfl (cell_one_new _ _ _) (one_slice _ _ _) (by omega) ?_; intro w2 hown2 hg2)
              have hB2 : Below w.heap.size w w2 := app_below HW.out hg2
              clear hg2 hown
              go_roundw
              case rel => exact ⟨m + 1, _, by omega, by omega, by go_num, rfl, hown2, hB2, HV.out.snoc (by rw [edit_hi HG.out (by omega) (by rw [HL.out]; omega)]; exact g1)⟩
              case measure => simp [intOf]; omega
            · obtain rfl : m = n := by omega
              have F1 : IsFiles wr p m fs := H.out.ext (Below.keeps hB)
              have F2 : IsFiles wr (some ⟨w.heap.size, 0, none⟩) (m + 1) gs := HV.out.files (by rw [edit_len HG.out (by rw [H.out.1]; omega), H.out.1]) hown (Below.keeps hB)
              have K1 := hide F1
              have K2 := hide F2
              have KB := hide hB
              have hs1 : sameB u fs u gs = false := edit_ne HG.out (by rw [H.out.1]; omega)
              have hs2 : sameB u gs u fs = false := edit_ne' HG.out (by rw [H.out.1]; omega)
              clear hown HV hB F1 F2
              go_wp2_with fail
              refine (zzsame_any _ _ _ _ _ _ _ _ _ _ _ K1.out K2.out (by omega)).mono ?_
              rintro e w3 ⟨rfl, hb3⟩
              have K3 := hide hb3
              clear hb3
              go_wp2_with fail
              refine (zzsame_any _ _ _ _ _ _ _ _ _ _ _ (K2.out.ext (Below.keeps K3.out)) (K1.out.ext (Below.keeps K3.out)) (by omega)).mono ?_
              rintro e w4 ⟨rfl, hb4⟩
              have K4 := hide (K3.out.trans (hb4.mono K3.out.size))
              clear hb4 K3
              go_wp2_with fail
              refine (zzsame_any _ _ _ _ _ _ _ _ _ _ _ (K1.out.ext (Below.keeps K4.out)) (K1.out.ext (Below.keeps K4.out)) (by omega)).mono ?_
              rintro e w5 ⟨rfl, hb5⟩
              have K5 := hide (K4.out.trans (hb5.mono K4.out.size))
              have hs3 : sameB u fs (u ++ t) fs = ((t.size : Int) == 0) := edit_tail u t fs
              clear hb5 K4
              by_cases hkm2 : k < m
              · obtain ⟨hl, h | ⟨x1, o1, A1, L1, C1, rfl, h⟩⟩ := H.out
                · omega
                have HL := hide hl
                have HC := hide h
                clear h hl
                have KW : Hid (Below w.heap.size w w5) := KB.out.trans (K5.out.mono KB.out.size)
                go_wp2_with (at_make; refine wpList_make_full _ rfl _ _ 22 rfl w5.heap.size 27 i0 (.slice none 0 0) 1 Try.underlying22 hi hz0 hz1 .i64 .i64 _ _ m rfl rfl rfl rfl (by rw [hz2]; omega) (by unfold maxLen; omega) (Nat.le_refl _) ?_; intro w6 hown hgrow)
                have hB6 : Below w5.heap.size w5 w6 := (Below.refl _ _).grown hgrow (Nat.le_refl _) (fun k hk => by cases hk)
                clear hgrow
                go_loopw [17] (fun x wr => ∃ (q : Nat) (vs : List Value), q ≤ m ∧ x = .int .i64 q ∧ wr.ownsRow w5.heap.size 27 1 (.slice (some ⟨w5.heap.size, 0, none⟩) m m) m vs ∧ Below w5.heap.size w5 wr ∧ Hid (PVals w vs fs q)) (fun x _ => m - (intOf x).toNat)
                case atStart => exact ⟨0, _, Nat.zero_le _, rfl, hown, hB6, fun j hj => absurd hj (Nat.not_lt_zero j)⟩
                case round =>
                  clear hown hB6
                  obtain ⟨q, vs6, hqm, rfl, hown, hB, HV⟩ := hrel
                  by_cases hlt6 : q < m
                  · obtain ⟨e1, g1⟩ := HC.out q hlt6
                    have e1 : wr.cell? _ = _ := Below.keeps hB _ _ (Below.keeps KW.out _ _ e1)
                    obtain ⟨v6, e6⟩ := own_cell hown q hlt6
                    have f6 := hown.frozenAt q
                    have S6 := hide (hown.stored q (.slice (A1 q) (L1 q) (C1 q)))
                    have HV6 := hide (PVals.store HV.out hown.1 hlt6 g1 (C := C1 q))
                    have HB6 : Hid (Below w5.heap.size w5 (wr.setCell ⟨w5.heap.size, q, none⟩ (.slice (A1 q) (L1 q) (C1 q)))) := hB.setCell (Nat.le_refl _) _
                    clear hown hB HV
                    go_wp2_with fail
                    go_roundw
                    case rel => exact ⟨q + 1, _, by omega, by go_num, S6.out.1, HB6.out, HV6.out⟩
                    case measure => simp [intOf]; omega
                  · obtain rfl : q = m := by omega
                    obtain ⟨v6, e6⟩ := own_cell hown k hkm2
                    have f6 := hown.frozenAt k
                    have S6 := hide (hown.stored k (.slice pb nb cb))
                    have HV6 := hide (PVals.edit HV.out hown.1 HL.out HB.out (k := k) (C := cb))
                    have HB6 : Hid (Below w5.heap.size w5 (wr.setCell ⟨w5.heap.size, k, none⟩ (.slice pb nb cb))) := hB.setCell (Nat.le_refl _) _
                    clear hown hB HV
                    obtain ⟨w7, hw7⟩ : ∃ w7, w7 = wr.setCell ⟨w5.heap.size, k, none⟩ (.slice pb nb cb) := ⟨_, rfl⟩
                    go_wp2_with fail
                    rw [← hw7] at S6 HB6 ⊢
                    clear hw7 e6 f6
                    have KW7 : Hid (Below w.heap.size w w7) := KW.out.trans (HB6.out.mono KW.out.size)
                    have F7 : Hid (∀ x, Keeps w7 x → IsFiles x (some ⟨x1, o1, none⟩) q fs) := fun x hx => (H.out.ext (Below.keeps KW7.out)).ext hx
                    have R7 : Hid (∀ x, Keeps w7 x → IsFiles x (some ⟨w5.heap.size, 0, none⟩) q (fs.set k xb)) := fun x hx => (HV6.out.files (by simpa using HL.out) S6.out.1 (Below.keeps KW7.out)).ext hx
                    have B7 : Hid (∀ x, Keeps w7 x → IsBytes x (A1 k) (L1 k) (fileAt fs k)) := fun x hx => ((HC.out k hkm2).2.ext (Below.keeps KW7.out)).ext hx
                    have X7 : Hid (∀ x, Keeps w7 x → IsBytes x pb nb xb) := fun x hx => (HB.out.ext (Below.keeps KW7.out)).ext hx
                    have e7 : w7.cell? ⟨x1, o1 + k, none⟩ = some (.slice (A1 k) (L1 k) (C1 k)) := Below.keeps KW7.out _ _ (HC.out k hkm2).1
                    have hs4 : sameB u fs u (fs.set k xb) = eqB (fileAt fs k) xb := edit_set u (by rw [HL.out]; exact hkm2)
                    clear S6 HB6 HV6 HC K5 KB K2 HB H
                    have hki0 : (0 : Int) ≤ (k : Int) := by omega
                    have hki1 : (k : Int) < (q : Int) := by omega
                    go_region_held3 (fun x => x.cell? ⟨x1, o1 + k, none⟩ = some (.slice (A1 k) (L1 k) (C1 k))) (first | exact e7 | exact keeps_drew hb8 _ _ e7)
                      ((first | (go_at_call 7; go_must (refine (zzsame_any _ _ _ _ _ _ _ _ fs (fs.set k xb) _ (F7.out _ (by first | exact keeps_drew hb8 | exact fun _ _ h => h)) (R7.out _ (by first | exact keeps_drew hb8 | exact fun _ _ h => h)) (by omega)).mono ?_; rintro e w8 ⟨rfl, hb8⟩)) | (go_at_call 10; refine (equalBytes_any _ _ _ _ _ _ (fileAt fs k) xb _ (B7.out _ (by first | exact keeps_drew hb8 | exact fun _ _ h => h)) (X7.out _ (by first | exact keeps_drew hb8 | exact fun _ _ h => h))).mono ?_; rintro e w8 ⟨rfl, q8, rfl⟩)))
                    go_wp2_with fail
                    go_ret
                    exact ⟨rfl, Below.drewN (KW7.out.trans (Below.mono ((Below.drew (Below.refl _ _)).trans hb8) KW7.out.size)) _⟩
              · go_wp2_with fail
                go_ret
                exact ⟨rfl, KB.out.trans (K5.out.mono KB.out.size)⟩
    · go_wp2
      all_goals
        go_ret
        exact ⟨rfl, Below.refl _ _⟩
  · go_enter Try.func4, Try.ntmps4
    go_wp2_with fail
    refine (zzBytesEdit_any _ _ _ _ _ _ _ _ _ _ _ H.out).mono ?_
    rintro e w' ⟨⟨b, rfl, hsm⟩, hw⟩
    obtain rfl := hw.symm
    clear hw hsm
    cases b
    · go_wp2
      go_ret
      exact ⟨rfl, Below.refl _ _⟩
    go_wp2_with fail
    all_goals
      go_ret
      exact ⟨rfl, Below.refl _ _⟩
end Go.Proofs.Qxb6618387a
