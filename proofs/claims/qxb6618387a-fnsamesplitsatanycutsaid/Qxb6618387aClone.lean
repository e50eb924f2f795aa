import Derived.Test.Qxb6618387aEdit
namespace Go.Proofs.Qxb6618387a
open Go.RowKit

theorem Try.info5 : (Try.prog.info? 5).map (fun i => (i.zero, i.size, i.bytes)) = some (some (.int .u8 0), 1, 1) := by kernel_rfl

/-- Where the sum was not given up, every file is small. -/
def SmallFiles (fs : List (List Int)) (n : Nat) (r : Int) : Prop := 0 ≤ r → ∀ i, i < n → (fileAt fs i).length ≤ 1048576
def RetSum (e : Ending) (fs : List (List Int)) (n : Nat) : Prop := ∃ r : Int, e = .returned (.int .i64 r) ∧ -1 ≤ r ∧ r ≤ 1048576 ∧ SmallFiles fs n r
theorem RetSum.no {fs : List (List Int)} {n : Nat} : RetSum (.returned (.int .i64 (-1))) fs n := ⟨-1, rfl, by omega, by omega, fun h => by omega⟩

set_option maxHeartbeats 400000 in
theorem filesSum_any (p : Option Addr) (n c : Nat) (s : Int) (fs : List (List Int)) (w : World) (h : IsFiles w p n fs) (s0 : 0 ≤ s) (s1 : s ≤ 1048576) (hn : n ≤ 1048576) :
    Calls Try.prog 6 #[.slice p n c, .int .i64 s] w fun e w' => RetSum e fs n ∧ w' = w := by
  obtain ⟨hl, h⟩ := h
  have HL := hide hl
  clear hl
  go_enter Try.func6, Try.ntmps6
  go_wp2
  go_loop [5, 6] (fun t i => ∃ (k : Nat) (r : Int), k ≤ n ∧ i = .int .i64 k ∧ t = .int .i64 r ∧ 0 ≤ r ∧ r ≤ 1048576 ∧ Hid (∀ i, i < k → (fileAt fs i).length ≤ 1048576)) (fun _ i => n - (intOf i).toNat)
  case atStart => exact ⟨0, s, Nat.zero_le _, rfl, rfl, s0, s1, fun i hi => absurd hi (Nat.not_lt_zero i)⟩
  case round =>
    obtain ⟨k, r, hk, rfl, rfl, r0, r1, HS⟩ := hrel
    by_cases hlt : k < n
    · rcases h with h | ⟨x1, o1, A1, L1, C1, rfl, h⟩
      · omega
      obtain ⟨e1, g1⟩ := h k hlt
      have HK := hide g1.1
      clear h g1
      go_wp2
      · go_ret
        exact ⟨RetSum.no, rfl⟩
      · go_ret
        exact ⟨RetSum.no, rfl⟩
      · go_round
        case rel => exact ⟨k + 1, _, by omega, by go_num, rfl, by omega, by omega, fun i hi => by
          rcases Nat.lt_or_ge i k with h | h
          · exact HS.out i h
          · have : i = k := by omega
            subst this; rw [HK.out]; omega⟩
        case measure => simp [intOf]; omega
    · go_wp2
      go_ret
      exact ⟨⟨r, rfl, by omega, by omega, fun _ i hi => HS.out i (by omega)⟩, rfl⟩

/-- Cells that hold numbers stay. -/
def KeepsInt (w x : World) : Prop := ∀ a k n, w.cell? a = some (.int k n) → x.cell? a = some (.int k n)
theorem Keeps.ints {w x : World} (h : Keeps w x) : KeepsInt w x := fun a _ _ hv => h a _ hv

theorem IsBytes.extI {w w' : World} {p : Option Addr} {n : Nat} {xs : List Int} (h : IsBytes w p n xs) (hc : KeepsInt w w') : IsBytes w' p n xs := by
  obtain ⟨hl, hm, hb, h | ⟨b, o, rfl, h⟩⟩ := h
  · exact ⟨hl, hm, hb, .inl h⟩
  · exact ⟨hl, hm, hb, .inr ⟨b, o, rfl, fun i hi => hc _ _ _ (h i hi)⟩⟩

/-- A list of bytes written into a new row, as far as k. -/
def bytesTo (xs : List Int) (n k : Nat) : List Value := (List.range n).map fun i => if i < k then .int .u8 (byteAt xs i) else .int .u8 0

theorem bytesTo_length (xs : List Int) (n k : Nat) : (bytesTo xs n k).length = n := by simp [bytesTo]
theorem bytesTo_zero (xs : List Int) (n : Nat) : (madeCells (Value.cells (.int .u8 0)) (n * 1)).toList = bytesTo xs n 0 := by
  have : Value.cells (.int .u8 0) = #[.int .u8 0] := rfl
  rw [this, Nat.mul_one, toList_madeCells_one]
  apply List.ext_getElem?
  intro i
  by_cases hi : i < n
  · simp [bytesTo, hi]
  · simp [bytesTo, hi]
theorem bytesTo_succ (xs : List Int) (n k : Nat) (hk : k < n) : (bytesTo xs n k).set k (.int .u8 (byteAt xs k)) = bytesTo xs n (k + 1) := by
  apply List.ext_getElem?
  intro i
  by_cases e : i = k
  · subst e
    rw [List.getElem?_set_self (by rw [bytesTo_length]; exact hk)]
    simp [bytesTo, hk]
  · rw [List.getElem?_set_ne (fun h => e h.symm)]
    by_cases hi : i < n
    · simp only [bytesTo, List.getElem?_map, List.getElem?_range hi, Option.map_some]
      have : (i < k) ↔ (i < k + 1) := by omega
      simp [this]
    · simp [bytesTo, hi]

theorem bytes_done {w : World} {xs : List Int} {n g base : Nat} (hl : xs.length = n) (hm : n ≤ maxLen) (hb : ∀ x ∈ xs, 0 ≤ x ∧ x < 256) (hown : w.ownsRow base 5 1 (.slice (some ⟨g, 0, none⟩) n n) n (bytesTo xs n n)) :
    IsBytes w (some ⟨g, 0, none⟩) n xs := by
  refine ⟨hl, hm, hb, .inr ⟨g, 0, rfl, fun i hi => ?_⟩⟩
  rw [Nat.zero_add, hown.cellAt i (by omega)]
  simp [bytesTo, hi, byteAt]

/-- It returns a slice of that length that holds those bytes. -/
def RetBytes (e : Ending) (w : World) (n : Nat) (xs : List Int) : Prop := ∃ p c, e = .returned (.slice p n c) ∧ IsBytes w p n xs

set_option maxHeartbeats 400000 in
theorem cloneBytes_any (p : Option Addr) (n c : Nat) (xs : List Int) (w : World) (h : IsBytes w p n xs) (hn : n ≤ 1048576) :
    Calls Try.prog 12 #[.slice p n c] w fun e w' => RetBytes e w' n xs ∧ Below w.heap.size w w' := by
  obtain ⟨i0, hi, hz0, hz1, hz2⟩ := info_parts Try.info5
  have heq := fun w => Lib.run_eql_slice_nil (P := Try.prog) w 27 5 p n c 0 0 Try.underlying27
  cases p with
  | none =>
    have hn0 : n = 0 := by
      obtain ⟨_, _, _, h | ⟨b, o, hp, _⟩⟩ := h
      · exact h
      · cases hp
    subst hn0
    have H := hide h
    clear h
    go_enter Try.func12, Try.ntmps12
    go_wp2
    go_ret
    exact ⟨⟨none, 0, rfl, H.out⟩, Below.refl _ _⟩
  | some a =>
    obtain ⟨hl, hm, hb, h⟩ := h
    have HL := hide hl
    have HB := hide hb
    have HM := hide hm
    clear hl hb hm
    go_enter Try.func12, Try.ntmps12
    go_wp2_with (at_make; refine wpList_make_full _ rfl _ _ 27 rfl w.heap.size 5 i0 (.int .u8 0) 1 Try.underlying27 hi hz0 hz1 .i64 .i64 _ _ n rfl rfl rfl rfl (by rw [hz2]; omega) (by unfold maxLen; omega) (Nat.le_refl _) ?_; intro w1 hown hgrow)
    have hB : Below w.heap.size w w1 := (Below.refl _ _).grown hgrow (Nat.le_refl _) (fun k hk => by cases hk)
    rw [bytesTo_zero xs] at hown
    clear hgrow
    go_loopw [4] (fun t wr => ∃ k : Nat, k ≤ n ∧ t = .int .i64 k ∧ wr.ownsRow w.heap.size 5 1 (.slice (some ⟨w.heap.size, 0, none⟩) n n) n (bytesTo xs n k) ∧ Below w.heap.size w wr) (fun t _ => n - (intOf t).toNat)
    case atStart => exact ⟨0, Nat.zero_le _, rfl, hown, hB⟩
    case round =>
      clear hown hB
      obtain ⟨k, hk, rfl, hown, hB⟩ := hrel
      by_cases hlt : k < n
      · rcases h with h | ⟨x1, o1, hp, h⟩
        · omega
        cases hp
        have e1 : wr.cell? ⟨x1, o1 + k, none⟩ = some (.int .u8 (byteAt xs k)) := Below.keeps hB _ _ (h k hlt)
        obtain ⟨v6, e6⟩ := own_cell hown k hlt
        have f6 := hown.frozenAt k
        have S6 := hide (hown.stored k (.int .u8 (byteAt xs k))).1
        rw [bytesTo_succ xs n k hlt] at S6
        have HB6 : Hid (Below w.heap.size w (wr.setCell ⟨w.heap.size, k, none⟩ (.int .u8 (byteAt xs k)))) := hB.setCell (Nat.le_refl _) _
        clear h hown hB
        go_wp2
        go_roundw
        case rel => exact ⟨k + 1, by omega, by go_num, S6.out, HB6.out⟩
        case measure => simp [intOf]; omega
      · obtain rfl : k = n := by omega
        clear h
        go_wp2
        go_ret
        exact ⟨⟨_, _, rfl, bytes_done HL.out HM.out HB.out hown⟩, hB⟩

/-- What is owned stays owned while nothing that was there turns. -/
theorem own_below {w w' : World} {base e size : Nat} {v : Value} {n : Nat} {xs : List Value} (h : w.ownsRow base e size v n xs) (hb : Below w.heap.size w w') : w'.ownsRow base e size v n xs :=
  h.kept (row := none) ⟨hb.os, hb.tape, hb.output, hb.size, fun k hk _ => hb.block k hk⟩ (by cases hv : v.ownBlock <;> simp)

/-- Every cell of the row is a slice value. -/
def AllSlices (vs : List Value) (n : Nat) : Prop := ∀ j, j < n → ∃ A L C, vs[j]? = some (.slice A L C)

theorem allSlices_made (n : Nat) : AllSlices (madeCells (Value.cells (.slice none 0 0)) (n * 1)).toList n := by
  intro j hj
  have : Value.cells (.slice none 0 0) = #[.slice none 0 0] := rfl
  rw [this, Nat.mul_one, toList_madeCells_one]
  exact ⟨none, 0, 0, by simp [hj]⟩

theorem AllSlices.set {vs : List Value} {n q : Nat} (h : AllSlices vs n) (hl : vs.length = n * 1) (A : Option Addr) (L C : Nat) : AllSlices (vs.set q (.slice A L C)) n := by
  intro j hj
  by_cases e : j = q
  · subst e
    exact ⟨A, L, C, by rw [List.getElem?_set_self (by omega)]⟩
  · obtain ⟨A', L', C', e'⟩ := h j hj
    exact ⟨A', L', C', by rw [List.getElem?_set_ne (fun h => e h.symm)]; exact e'⟩

theorem PVals.extI {w w' : World} {vs : List Value} {gs : List (List Int)} {q : Nat} (h : PVals w vs gs q) (hk : KeepsInt w w') : PVals w' vs gs q := fun j hj => by
  obtain ⟨A, L, C, e, b⟩ := h j hj
  exact ⟨A, L, C, e, b.extI hk⟩

/-- A store over a cell that holds no number keeps all numbers. -/
theorem keepsInt_store {w : World} {p : Addr} {A : Option Addr} {L C : Nat} (v : Value) (h : w.cell? p = some (.slice A L C)) : KeepsInt w (w.setCell p v) := by
  intro a k n ha
  have : p ≠ a := by
    rintro rfl
    rw [h] at ha
    cases ha
  rw [World.cell?_setCell_other _ _ _ _ this]
  exact ha

theorem own_slice {w : World} {base e g n cap : Nat} {xs : List Value} (h : w.ownsRow base e 1 (.slice (some ⟨g, 0, none⟩) n cap) n xs) (hs : AllSlices xs n) (j : Nat) (hj : j < n) : ∃ A L C, w.cell? ⟨g, j, none⟩ = some (.slice A L C) := by
  obtain ⟨A, L, C, e⟩ := hs j hj
  exact ⟨A, L, C, by rw [h.cellAt j (by omega)]; exact e⟩

/-- It returns a slice of that length that holds those files. -/
def RetFiles (e : Ending) (w : World) (n : Nat) (fs : List (List Int)) : Prop := ∃ p c, e = .returned (.slice p n c) ∧ IsFiles w p n fs

theorem PVals.files {w : World} {vs : List Value} {gs : List (List Int)} {n g cap base : Nat} (h : PVals w vs gs n) (hg : gs.length = n) (hown : w.ownsRow base 27 1 (.slice (some ⟨g, 0, none⟩) n cap) n vs) : IsFiles w (some ⟨g, 0, none⟩) n gs :=
  Vals.files (w := w) ⟨by have := hown.1; omega, h⟩ hg hown (fun _ _ h => h)

set_option maxHeartbeats 1000000 in
theorem cloneFiles_any (p : Option Addr) (n c : Nat) (fs : List (List Int)) (w : World) (h : IsFiles w p n fs) (hn : n ≤ 1048576) (hsm : ∀ i, i < n → (fileAt fs i).length ≤ 1048576) :
    Calls Try.prog 8 #[.slice p n c] w fun e w' => RetFiles e w' n fs ∧ Below w.heap.size w w' := by
  obtain ⟨i0, hi, hz0, hz1, hz2⟩ := info_parts Try.info27
  have heq := fun w => Lib.run_eql_slice_nil (P := Try.prog) w 22 27 p n c 0 0 Try.underlying22
  have HSM := hide hsm
  clear hsm
  cases p with
  | none =>
    have hn0 : n = 0 := by
      obtain ⟨_, h | ⟨b, o, A, L, C, hp, _⟩⟩ := h
      · exact h
      · cases hp
    subst hn0
    have H := hide h
    clear h
    go_enter Try.func8, Try.ntmps8
    go_wp2
    go_ret
    exact ⟨⟨none, 0, rfl, H.out⟩, Below.refl _ _⟩
  | some a =>
    obtain ⟨hl, h⟩ := h
    have HL := hide hl
    have HC := hide h
    clear hl h
    go_enter Try.func8, Try.ntmps8
    go_wp2_with (at_make; refine wpList_make_full _ rfl _ _ 22 rfl w.heap.size 27 i0 (.slice none 0 0) 1 Try.underlying22 hi hz0 hz1 .i64 .i64 _ _ n rfl rfl rfl rfl (by rw [hz2]; omega) (by unfold maxLen; omega) (Nat.le_refl _) ?_; intro w1 hown hgrow)
    have hB : Below w.heap.size w w1 := (Below.refl _ _).grown hgrow (Nat.le_refl _) (fun k hk => by cases hk)
    clear hgrow
    go_loopw [4] (fun t wr => ∃ (k : Nat) (vs : List Value), k ≤ n ∧ t = .int .i64 k ∧ wr.ownsRow w.heap.size 27 1 (.slice (some ⟨w.heap.size, 0, none⟩) n n) n vs ∧ Below w.heap.size w wr ∧ Hid (PVals wr vs fs k ∧ AllSlices vs n)) (fun t _ => n - (intOf t).toNat)
    case atStart => exact ⟨0, _, Nat.zero_le _, rfl, hown, hB, fun j hj => absurd hj (Nat.not_lt_zero j), allSlices_made n⟩
    case round =>
      clear hown hB
      obtain ⟨k, vs, hk, rfl, hown, hB, HV⟩ := hrel
      by_cases hlt : k < n
      · rcases HC.out with h | ⟨x1, o1, A1, L1, C1, hp, h⟩
        · omega
        cases hp
        obtain ⟨e1, g1⟩ := h k hlt
        have e1 : wr.cell? _ = _ := Below.keeps hB _ _ e1
        have g1 : Hid (IsBytes wr (A1 k) (L1 k) (fileAt fs k)) := g1.ext (Below.keeps hB)
        have hL : L1 k ≤ 1048576 := by have := HSM.out k hlt; rw [g1.out.1] at this; exact this
        have HO := hide hown
        have HB := hide hB
        have hsz : w.heap.size < wr.heap.size := (hown.lt _ rfl).2
        clear h hown hB
        go_wp2_with fail
        refine (cloneBytes_any _ _ _ (fileAt fs k) _ g1.out hL).mono ?_
        rintro e w2 ⟨⟨p2, c2, rfl, hby⟩, hb2⟩
        have hown2 := own_below HO.out hb2
        have hB2 : Below w.heap.size w w2 := HB.out.trans (hb2.mono HB.out.size)
        obtain ⟨hv, hs⟩ := HV.out
        have hv2 : PVals w2 vs fs k := hv.extI (Keeps.ints (Below.keeps hb2))
        obtain ⟨A6, L6, C6, e6⟩ := own_slice hown2 hs k hlt
        have f6 := hown2.frozenAt k
        have S6 := hide (hown2.stored k (.slice p2 (L1 k) c2)).1
        have HV6 : Hid (PVals (w2.setCell ⟨w.heap.size, k, none⟩ (.slice p2 (L1 k) c2)) (vs.set k (.slice p2 (L1 k) c2)) fs (k + 1)) :=
          (PVals.store hv2 hown2.1 hlt hby).extI (keepsInt_store _ e6)
        have HS6 := hide (hs.set (q := k) hown2.1 p2 (L1 k) c2)
        have HB6 : Hid (Below w.heap.size w (w2.setCell ⟨w.heap.size, k, none⟩ (.slice p2 (L1 k) c2))) := hB2.setCell (Nat.le_refl _) _
        clear hown2 hB2 hv hs hv2 hby hb2 HO HB HV
        go_wp2_with fail
        go_roundw
        case rel => exact ⟨k + 1, _, by omega, by go_num, S6.out, HB6.out, HV6.out, HS6.out⟩
        case measure => simp [intOf]; omega
      · obtain rfl : k = n := by omega
        go_wp2
        go_ret
        exact ⟨⟨_, _, rfl, PVals.files HV.out.1 HL.out hown⟩, hB⟩
end Go.Proofs.Qxb6618387a
