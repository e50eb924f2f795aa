import Derived.Test.Qxb6618387aRows
import Derived.WalkKit
import Derived.WalkSpells
import Derived.WalkLawsBesides
import Derived.Deep.QuietTactic
import Derived.BigQuiet
import Derived.Deep.OwnRows
import Derived.Laws.BytesArg
namespace Go.Proofs.Qxb6618387a
open Go.RowKit

theorem hide {p : Prop} (h : p) : Hid p := h
theorem unhide {p : Prop} (h : Hid p) : p := h

theorem quiet_at {P : Program} {f : FuncId} {args : Array Value} {w : World} {m n : Nat} {v : Value}
    (h : Calls P f args (w.drewN (m + n)) fun e w' => e = .returned v ∧ w' = w.drewN (m + n)) : Calls P f args (w.drewN (m + n)) fun e w'' => e = .returned v ∧ ∃ n, w'' = w.drewN (m + n) :=
  h.mono fun _ _ ⟨he, hm⟩ => ⟨he, n, hm⟩

/-- Bytes behind a slice value: its length, its numbers, and (unless it is empty) its cells. -/
def IsBytes (w : World) (p : Option Addr) (n : Nat) (xs : List Int) : Prop :=
  xs.length = n ∧ n ≤ maxLen ∧ (∀ x ∈ xs, 0 ≤ x ∧ x < 256) ∧ (n = 0 ∨ ∃ b o, p = some ⟨b, o, none⟩ ∧ ∀ i, i < n → w.cell? ⟨b, o + i, none⟩ = some (.int .u8 (xs.getD i 0)))

theorem zeroBytes (w : World) (p : Option Addr) (c : Nat) :
    (convert 27 9 (.slice p 0 c)).run Try.prog w = .ok (.string (strOfNums [])) w := by
  rw [run_convert_bytes_string w 27 9 5 _ 0 c Try.underlying27 Try.underlying5 Try.underlying9]
  cases p <;> simp [Conv.bytesToString, loadCells]
  all_goals rfl

theorem IsBytes.conv {w : World} {p : Option Addr} {n : Nat} {xs : List Int} (h : IsBytes w p n xs) (c : Nat) :
    (convert 27 9 (.slice p n c)).run Try.prog w = .ok (.string (strOfNums xs)) w := by
  obtain ⟨hl, _, _, h | ⟨b, o, rfl, hc⟩⟩ := h
  · subst h
    obtain rfl : xs = [] := List.eq_nil_of_length_eq_zero hl
    exact zeroBytes w p c
  · exact run_convert_bytes_arg (P := Try.prog) w 27 5 Try.underlying27 Try.underlying5 b o n c xs hl hc 9 Try.underlying9

/-- The same bytes? -/
def eqB (xs ys : List Int) : Bool := decide (xs = ys)
theorem eqB_true {xs ys : List Int} : eqB xs ys = true ↔ xs = ys := by unfold eqB; simp
theorem eqB_false {xs ys : List Int} : eqB xs ys = false ↔ xs ≠ ys := by unfold eqB; simp

theorem strOfNums_inj {xs ys : List Int} (hx : ∀ x ∈ xs, 0 ≤ x ∧ x < 256) (hy : ∀ x ∈ ys, 0 ≤ x ∧ x < 256) :
    ((strOfNums xs).toList == (strOfNums ys).toList) = eqB xs ys := by
  unfold eqB
  rw [Bool.eq_iff_iff]
  simp only [beq_iff_eq, decide_eq_true_eq]
  constructor
  · intro h
    rw [ByteArray.toList_eq, ByteArray.toList_eq, strOfNums_data, strOfNums_data] at h
    have key : ∀ (l : List Int), (∀ x ∈ l, 0 ≤ x ∧ x < 256) → (l.map fun n => UInt8.ofNat n.toNat).map (fun c => (c.toNat : Int)) = l := by
      intro l hl
      rw [List.map_map]
      conv => rhs; rw [← List.map_id l]
      refine List.map_congr_left fun x hx => ?_
      have := hl x hx
      simp only [Function.comp_apply, id_eq, UInt8.toNat_ofNat']
      omega
    have h2 := congrArg (List.map fun c : UInt8 => (c.toNat : Int)) h
    rwa [key xs hx, key ys hy] at h2
  · rintro rfl
    rfl

set_option maxHeartbeats 400000 in
theorem equal_any (p1 p2 : Option Addr) (n m c d : Nat) (xs ys : List Int) (w : World) (h1 : IsBytes w p1 n xs) (h2 : IsBytes w p2 m ys) :
    Calls Try.prog 13 #[.slice p1 n c, .slice p2 m d] w fun e w' => e = .returned (.bool (eqB xs ys)) ∧ w' = w := by
  have g1 := h1.conv c
  have g2 := h2.conv d
  have X := strOfNums_inj h1.2.2.1 h2.2.2.1
  have HX : Hid _ := X
  clear X h1 h2
  go_enter Try.func13, Try.ntmps13
  go_wp2
  go_ret
  exact ⟨congrArg (fun b => Ending.returned (.bool b)) HX.out, rfl⟩

/-- File i of the list. -/
def fileAt (fs : List (List Int)) (i : Nat) : List Int := fs.getD i []

theorem fileAt_ext {fs gs : List (List Int)} (hl : fs.length = gs.length) (h : ∀ i, i < fs.length → fileAt fs i = fileAt gs i) : fs = gs := by
  apply List.ext_getElem hl
  intro i h1 h2
  have := h i h1
  unfold fileAt at this
  simpa [List.getD, List.getElem?_eq_getElem h1, List.getElem?_eq_getElem h2] using this

/-- Files behind a slice value: each file's slice value, and its bytes. -/
def IsFiles (w : World) (p : Option Addr) (n : Nat) (fs : List (List Int)) : Prop :=
  fs.length = n ∧ (n = 0 ∨ ∃ (b o : Nat) (A : Nat → Option Addr) (L C : Nat → Nat), p = some ⟨b, o, none⟩ ∧ ∀ i, i < n → w.cell? ⟨b, o + i, none⟩ = some (.slice (A i) (L i) (C i)) ∧ IsBytes w (A i) (L i) (fileAt fs i))

/-- What 'same' answers. -/
def sameB (u1 : ByteArray) (fs1 : List (List Int)) (u2 : ByteArray) (fs2 : List (List Int)) : Bool := decide (u1 = u2 ∧ fs1 = fs2)

theorem IsBytes.ext {w w' : World} {p : Option Addr} {n : Nat} {xs : List Int} (h : IsBytes w p n xs) (hc : ∀ a v, w.cell? a = some v → w'.cell? a = some v) : IsBytes w' p n xs := by
  obtain ⟨hl, hm, hb, h | ⟨b, o, rfl, h⟩⟩ := h
  · exact ⟨hl, hm, hb, .inl h⟩
  · exact ⟨hl, hm, hb, .inr ⟨b, o, rfl, fun i hi => hc _ _ (h i hi)⟩⟩

theorem IsFiles.ext {w w' : World} {p : Option Addr} {n : Nat} {fs : List (List Int)} (h : IsFiles w p n fs) (hc : ∀ a v, w.cell? a = some v → w'.cell? a = some v) : IsFiles w' p n fs := by
  obtain ⟨hl, h | ⟨b, o, A, L, C, rfl, h⟩⟩ := h
  · exact ⟨hl, .inl h⟩
  · exact ⟨hl, .inr ⟨b, o, A, L, C, rfl, fun i hi => ⟨hc _ _ (h i hi).1, (h i hi).2.ext hc⟩⟩⟩

theorem cell_lt {w : World} {a : Addr} {v : Value} (h : w.cell? a = some v) : a.block < w.heap.size := by
  unfold World.cell? at h
  rcases Nat.lt_or_ge a.block w.heap.size with h1 | h1
  · exact h1
  · rw [Array.getElem?_eq_none h1] at h
    simp at h

theorem Below.keeps {w w' : World} (h : Below w.heap.size w w') : ∀ a v, w.cell? a = some v → w'.cell? a = some v := fun _ _ hv => by
  rw [h.cell (cell_lt hv)]; exact hv

theorem Below.drewN {B : Nat} {a w : World} (h : Below B a w) (n : Nat) : Below B a (w.drewN n) := h.trans ⟨rfl, rfl, rfl, Nat.le_refl _, fun _ _ => rfl⟩
theorem below2 (w : World) (o o' : Obj) : Below w.heap.size w ((w.alloc o).alloc o') :=
  ((Below.refl _ _).alloc (Nat.le_refl _) o).alloc (by simp) o'

set_option maxHeartbeats 400000 in
theorem same_any (p1 p2 : Option Addr) (n1 c1 n2 c2 : Nat) (u1 u2 : ByteArray) (fs1 fs2 : List (List Int)) (w : World) (h1 : IsFiles w p1 n1 fs1) (h2 : IsFiles w p2 n2 fs2) (b1 : n1 ≤ 1048577) :
    Calls Try.prog 11 #[.agg #[.slice p1 n1 c1, .string u1], .agg #[.slice p2 n2 c2, .string u2]] w fun e w' => e = .returned (.bool (sameB u1 fs1 u2 fs2)) ∧ Below w.heap.size w w' := by
  by_cases hu : u1 = u2
  · by_cases hn : n1 = n2
    · subst hu hn
      have hd : ((n1 : Int) != (n1 : Int)) = false := by simp
      rcases h1 with ⟨l1, h1⟩
      rcases h2 with ⟨l2, h2⟩
      have M1 := hide l1
      have M2 := hide l2
      clear l1 l2
      have hb1 : (n1 : Int) ≤ 1048577 := by omega
      go_enter Try.func11, Try.ntmps11
      go_wp2
      go_loopw [23] (fun t wr => ∃ k m : Nat, k ≤ n1 ∧ t = .int .i64 k ∧ Hid (∀ i, i < k → fileAt fs1 i = fileAt fs2 i) ∧ wr = ((w.alloc (.cells #[.slice p1 n1 c1, .string u1] 31)).alloc (.cells #[.slice p2 n1 c2, .string u1] 31)).drewN m) (fun t _ => n1 - (intOf t).toNat)
      case atStart => exact ⟨0, 0, Nat.zero_le _, rfl, fun i hi => absurd hi (Nat.not_lt_zero i), rfl⟩
      case round =>
        obtain ⟨k, m, hk, rfl, hpre, rfl⟩ := hrel
        by_cases hlt : k < n1
        · rcases h1 with h1 | ⟨x1, o1, A1, L1, C1, rfl, h1⟩
          · omega
          rcases h2 with h2 | ⟨x2, o2, A2, L2, C2, rfl, h2⟩
          · omega
          obtain ⟨e1, g1⟩ := h1 k hlt
          obtain ⟨e2, g2⟩ := h2 k hlt
          have y1 := cell_lt e1
          have y2 := cell_lt e2
          clear h1 h2
          have kp : ∀ o o' a v, w.cell? a = some v → ((w.alloc o).alloc o').cell? a = some v := fun o o' => Below.keeps (((Below.refl _ _).alloc (Nat.le_refl _) o).alloc (by simp) o')
          have f1 := fun o o' => kp o o' _ _ e1
          have f2 := fun o o' => kp o o' _ _ e2
          have G1 : Hid (∀ o o' q, IsBytes (((w.alloc o).alloc o').drewN q) (A1 k) (L1 k) (fileAt fs1 k)) := fun o o' q => g1.ext (kp o o')
          have G2 : Hid (∀ o o' q, IsBytes (((w.alloc o).alloc o').drewN q) (A2 k) (L2 k) (fileAt fs2 k)) := fun o o' q => g2.ext (kp o o')
          clear kp
          go_wp2
          go_quiet ((go_at_call 13; exact quiet_at (equal_any _ _ _ _ _ _ (fileAt fs1 k) (fileAt fs2 k) _ (G1.out _ _ _) (G2.out _ _ _))))
          go_wp2
          · have hq : (!eqB (fileAt fs1 k) (fileAt fs2 k)) = true := by assumption
            have hs : sameB u1 fs1 u1 fs2 = false := by
              unfold sameB
              simp only [decide_eq_false_iff_not, not_and]
              intro _ he
              rw [he, eqB_true.2 rfl] at hq
              cases hq
            go_ret
            exact ⟨by rw [hs]; rfl, Below.drewN (Below.drewN (below2 _ _ _) _) _⟩
          · have hq : (!eqB (fileAt fs1 k) (fileAt fs2 k)) = false := by assumption
            go_roundw
            case rel => exact ⟨k + 1, _, by omega, by go_num, fun i hi => by
              rcases Nat.lt_or_ge i k with h | h
              · exact hpre.out i h
              · have : i = k := by omega
                subst this; exact eqB_true.1 (by simpa using hq), rfl⟩
            case measure => simp [intOf]; omega
        · have hs : sameB u1 fs1 u1 fs2 = true := by
            unfold sameB
            simp only [decide_eq_true_eq]
            refine ⟨trivial, fileAt_ext (M1.out.trans M2.out.symm) fun i hi => hpre.out i (by have := M1.out; omega)⟩
          go_wp2
          go_ret
          exact ⟨by rw [hs]; rfl, Below.drewN (below2 _ _ _) _⟩
    · have hd : ((n1 : Int) != (n2 : Int)) = true := by simp; omega
      have hs : sameB u1 fs1 u2 fs2 = false := by
        unfold sameB
        simp only [decide_eq_false_iff_not, not_and]
        intro _ he
        apply hn
        rw [← h1.1, ← h2.1, he]
      go_enter Try.func11, Try.ntmps11
      go_wp2
      go_ret
      exact ⟨by rw [hs]; rfl, ((Below.refl _ _).alloc (Nat.le_refl _) _).alloc (by simp) _⟩
  · have hd : (u1.toList == u2.toList) = false := by
      rw [ByteArray.toList_eq, ByteArray.toList_eq]
      simpa [← ByteArray.ext_iff] using hu
    have hs : sameB u1 fs1 u2 fs2 = false := by
      unfold sameB
      simp only [decide_eq_false_iff_not, not_and]
      exact fun h => absurd h hu
    go_enter Try.func11, Try.ntmps11
    go_wp2
    go_ret
    exact ⟨by rw [hs]; rfl, ((Below.refl _ _).alloc (Nat.le_refl _) _).alloc (by simp) _⟩
end Go.Proofs.Qxb6618387a
