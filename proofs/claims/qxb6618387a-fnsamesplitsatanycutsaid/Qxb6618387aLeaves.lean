import Derived.Test.Qxb6618387aBase
namespace Go.Proofs.Qxb6618387a
open Go.RowKit

/-- It returns a bool; where that is true, the listed lengths are small. -/
def RetB (e : Ending) (ns : List Nat) : Prop := ∃ b : Bool, e = .returned (.bool b) ∧ (b = true → ∀ n ∈ ns, n ≤ 1048576)
theorem RetB.no {ns : List Nat} : RetB (.returned (.bool false)) ns := ⟨false, rfl, fun h => by cases h⟩
theorem RetB.yes1 {b : Bool} {n : Nat} (h : n ≤ 1048576) : RetB (.returned (.bool b)) [n] := ⟨b, rfl, fun _ m hm => by simp at hm; omega⟩
theorem RetB.yes2 {b : Bool} {n m : Nat} (h : n ≤ 1048576) (h' : m ≤ 1048576) : RetB (.returned (.bool b)) [n, m] := ⟨b, rfl, fun _ x hm => by simp at hm; omega⟩

set_option maxHeartbeats 400000 in
theorem zzsame_any (p1 p2 : Option Addr) (n1 c1 n2 c2 : Nat) (u1 u2 : ByteArray) (fs1 fs2 : List (List Int)) (w : World) (h1 : IsFiles w p1 n1 fs1) (h2 : IsFiles w p2 n2 fs2) (b1 : n1 ≤ 1048577) :
    Calls Try.prog 7 #[.slice p1 n1 c1, .string u1, .slice p2 n2 c2, .string u2] w fun e w' => e = .returned (.bool (sameB u1 fs1 u2 fs2)) ∧ Below w.heap.size w w' := by
  have H1 := hide h1
  have H2 := hide h2
  clear h1 h2
  go_enter Try.func7, Try.ntmps7
  go_wp2_with (go_at_call 11; refine (same_any _ _ _ _ _ _ _ _ _ _ _ H1.out H2.out b1).mono ?_; rintro e w' ⟨rfl, hb⟩)
  go_ret
  exact ⟨rfl, hb⟩

set_option maxHeartbeats 400000 in
theorem filesBytes_any (p : Option Addr) (n c : Nat) (s : Int) (fs : List (List Int)) (w : World) (h : IsFiles w p n fs) (s0 : 0 ≤ s) (s1 : s ≤ 1048576) (hn : n ≤ 1048576) :
    Calls Try.prog 6 #[.slice p n c, .int .i64 s] w fun e w' => (∃ r : Int, e = .returned (.int .i64 r) ∧ -1 ≤ r ∧ r ≤ 1048576) ∧ w' = w := by
  obtain ⟨hl, h⟩ := h
  have HL := hide hl
  clear hl
  go_enter Try.func6, Try.ntmps6
  go_wp2
  go_loop [5, 6] (fun t i => ∃ (k : Nat) (r : Int), k ≤ n ∧ i = .int .i64 k ∧ t = .int .i64 r ∧ 0 ≤ r ∧ r ≤ 1048576) (fun _ i => n - (intOf i).toNat)
  case atStart => exact ⟨0, s, Nat.zero_le _, rfl, rfl, s0, s1⟩
  case round =>
    obtain ⟨k, r, hk, rfl, rfl, r0, r1⟩ := hrel
    by_cases hlt : k < n
    · rcases h with h | ⟨x1, o1, A1, L1, C1, rfl, h⟩
      · omega
      obtain ⟨e1, g1⟩ := h k hlt
      clear h g1
      go_wp2
      · go_ret
        exact ⟨⟨-1, rfl, by omega, by omega⟩, rfl⟩
      · go_ret
        exact ⟨⟨-1, rfl, by omega, by omega⟩, rfl⟩
      · go_round
        case rel => exact ⟨k + 1, _, by omega, by go_num, rfl, by omega, by omega⟩
        case measure => simp [intOf]; omega
    · go_wp2
      go_ret
      exact ⟨⟨r, rfl, by omega, by omega⟩, rfl⟩

set_option maxHeartbeats 400000 in
theorem zzBytesEdit_any (p pb : Option Addr) (n c nb cb : Nat) (u t : ByteArray) (i : Int) (fs : List (List Int)) (w : World) (h : IsFiles w p n fs) :
    Calls Try.prog 9 #[.slice p n c, .string u, .int .i64 i, .slice pb nb cb, .string t] w fun e w' => RetB e [n] ∧ w' = w := by
  obtain ⟨hl, h⟩ := h
  have HL := hide hl
  clear hl
  by_cases hn : n ≤ 1048576
  · go_enter Try.func9, Try.ntmps9
    go_wp2
    go_loop [11, 12] (fun t i => ∃ (k : Nat) (r : Int), k ≤ n ∧ i = .int .i64 k ∧ t = .int .i64 r ∧ 0 ≤ r ∧ r ≤ 1048576) (fun _ i => n - (intOf i).toNat)
    case atStart => exact ⟨0, n, Nat.zero_le _, rfl, rfl, by omega, by omega⟩
    case round =>
      obtain ⟨k, r, hk, rfl, rfl, r0, r1⟩ := hrel
      by_cases hlt : k < n
      · rcases h with h | ⟨x1, o1, A1, L1, C1, rfl, h⟩
        · omega
        obtain ⟨e1, g1⟩ := h k hlt
        clear h g1
        go_wp2
        · go_ret
          exact ⟨RetB.yes1 hn, rfl⟩
        · go_ret
          exact ⟨RetB.yes1 hn, rfl⟩
        · go_round
          case rel => exact ⟨k + 1, _, by omega, by go_num, rfl, by omega, by omega⟩
          case measure => simp [intOf]; omega
      · clear h
        go_wp2
        all_goals
          go_ret
          exact ⟨RetB.yes1 hn, rfl⟩
  · clear h
    go_enter Try.func9, Try.ntmps9
    go_wp2
    go_ret
    exact ⟨RetB.no, rfl⟩

set_option maxHeartbeats 400000 in
theorem zzBytesCut_any (p p' : Option Addr) (n c n' c' : Nat) (u t : ByteArray) (i : Int) (fs fs' : List (List Int)) (w : World) (h : IsFiles w p n fs) (h' : IsFiles w p' n' fs') :
    Calls Try.prog 5 #[.slice p n c, .string u, .slice p' n' c', .string t, .int .i64 i] w fun e w' => RetB e [n, n'] ∧ w' = w := by
  obtain ⟨hl, h⟩ := h
  obtain ⟨hl', h'⟩ := h'
  have HL := hide hl
  have HL' := hide hl'
  clear hl hl'
  by_cases hn : n ≤ 1048576
  · go_enter Try.func5, Try.ntmps5
    go_wp2
    go_loop [11, 12] (fun t i => ∃ (k : Nat) (r : Int), k ≤ n ∧ i = .int .i64 k ∧ t = .int .i64 r ∧ 0 ≤ r ∧ r ≤ 1048576) (fun _ i => n - (intOf i).toNat)
    case atStart => exact ⟨0, n, Nat.zero_le _, rfl, rfl, by omega, by omega⟩
    case round =>
      obtain ⟨k, r, hk, rfl, rfl, r0, r1⟩ := hrel
      by_cases hlt : k < n
      · rcases h with h | ⟨x1, o1, A1, L1, C1, rfl, h⟩
        · omega
        obtain ⟨e1, g1⟩ := h k hlt
        clear h g1 h'
        go_wp2
        · go_ret
          exact ⟨RetB.no, rfl⟩
        · go_ret
          exact ⟨RetB.no, rfl⟩
        · go_round
          case rel => exact ⟨k + 1, _, by omega, by go_num, rfl, by omega, by omega⟩
          case measure => simp [intOf]; omega
      · clear h
        by_cases hn' : n' ≤ 1048576
        · go_wp2
          · go_ret
            exact ⟨RetB.no, rfl⟩
          · go_ret
            exact ⟨RetB.no, rfl⟩
          · go_ret
            exact ⟨RetB.no, rfl⟩
          · go_loop [11, 13] (fun t i => ∃ (k : Nat) (r : Int), k ≤ n' ∧ i = .int .i64 k ∧ t = .int .i64 r ∧ 0 ≤ r ∧ r ≤ 1048576) (fun _ i => n' - (intOf i).toNat)
            case atStart => exact ⟨0, _, Nat.zero_le _, rfl, rfl, by omega, by omega⟩
            case round =>
              obtain ⟨k', r', hk', rfl, rfl, r0', r1'⟩ := hrel
              by_cases hlt' : k' < n'
              · rcases h' with h' | ⟨x1, o1, A1, L1, C1, rfl, h'⟩
                · omega
                obtain ⟨e1, g1⟩ := h' k' hlt'
                clear h' g1
                go_wp2
                · go_ret
                  exact ⟨RetB.no, rfl⟩
                · go_ret
                  exact ⟨RetB.no, rfl⟩
                · go_round
                  case rel => exact ⟨k' + 1, _, by omega, by go_num, rfl, by omega, by omega⟩
                  case measure => simp [intOf]; omega
              · clear h'
                go_wp2
                all_goals
                  go_ret
                  exact ⟨RetB.yes2 hn hn', rfl⟩
        · clear h'
          go_wp2
          all_goals
            go_ret
            exact ⟨RetB.no, rfl⟩
  · clear h h'
    go_enter Try.func5, Try.ntmps5
    go_wp2
    go_ret
    exact ⟨RetB.no, rfl⟩

/-- Byte i of the list. -/
def byteAt (xs : List Int) (i : Nat) : Int := xs.getD i 0
theorem byteAt_ext {xs ys : List Int} (hl : xs.length = ys.length) (h : ∀ i, i < xs.length → byteAt xs i = byteAt ys i) : xs = ys := by
  apply List.ext_getElem hl
  intro i h1 h2
  have := h i h1
  unfold byteAt at this
  simpa [List.getD, List.getElem?_eq_getElem h1, List.getElem?_eq_getElem h2] using this

set_option maxHeartbeats 400000 in
theorem equalBytes_any (p1 p2 : Option Addr) (n c m d : Nat) (xs ys : List Int) (w : World) (h1 : IsBytes w p1 n xs) (h2 : IsBytes w p2 m ys) :
    Calls Try.prog 10 #[.slice p1 n c, .slice p2 m d] w fun e w' => e = .returned (.bool (eqB xs ys)) ∧ ∃ q, w' = w.drewN q := by
  obtain ⟨l1, m1, _, h1⟩ := h1
  obtain ⟨l2, m2, _, h2⟩ := h2
  unfold maxLen at m1 m2
  have L1 := hide l1
  have L2 := hide l2
  clear l1 l2
  by_cases hn : n = m
  · subst hn
    have hd : ((n : Int) != (n : Int)) = false := by simp
    go_enter Try.func10, Try.ntmps10
    go_wp2
    go_loopw [5] (fun t wr => ∃ k q : Nat, k ≤ n ∧ t = .int .i64 k ∧ Hid (∀ i, i < k → byteAt xs i = byteAt ys i) ∧ wr = w.drewN q) (fun t _ => n - (intOf t).toNat)
    case atStart => exact ⟨0, 0, Nat.zero_le _, rfl, fun i hi => absurd hi (Nat.not_lt_zero i), rfl⟩
    case round =>
      obtain ⟨k, q, hk, rfl, hpre, rfl⟩ := hrel
      by_cases hlt : k < n
      · rcases h1 with h1 | ⟨x1, o1, rfl, h1⟩
        · omega
        rcases h2 with h2 | ⟨x2, o2, rfl, h2⟩
        · omega
        have e1 : w.cell? ⟨x1, o1 + k, none⟩ = some (.int .u8 (byteAt xs k)) := h1 k hlt
        have e2 : w.cell? ⟨x2, o2 + k, none⟩ = some (.int .u8 (byteAt ys k)) := h2 k hlt
        clear h1 h2
        go_wp2
        go_quiet (fail)
        go_wp2
        · have hq : (byteAt xs k != byteAt ys k) = true := by assumption
          have hs : eqB xs ys = false := by
            rw [eqB_false]
            rintro rfl
            simp at hq
          go_ret
          exact ⟨by rw [hs]; rfl, _, World.drewN_drewN _ _ _⟩
        · have hq : (byteAt xs k != byteAt ys k) = false := by assumption
          go_roundw
          case rel => exact ⟨k + 1, _, by omega, by go_num, fun i hi => by
            rcases Nat.lt_or_ge i k with h | h
            · exact hpre.out i h
            · have : i = k := by omega
              subst this; simpa using hq, rfl⟩
          case measure => simp [intOf]; omega
      · have hs : eqB xs ys = true := by
          rw [eqB_true]
          exact byteAt_ext (L1.out.trans L2.out.symm) fun i hi => hpre.out i (by have := L1.out; omega)
        go_wp2
        go_ret
        exact ⟨by rw [hs]; rfl, _, rfl⟩
  · have hd : ((n : Int) != (m : Int)) = true := by simp; omega
    have hs : eqB xs ys = false := by
      rw [eqB_false]
      rintro rfl
      exact hn (L1.out.symm.trans L2.out)
    go_enter Try.func10, Try.ntmps10
    go_wp2
    go_ret
    exact ⟨by rw [hs]; rfl, 0, rfl⟩
end Go.Proofs.Qxb6618387a
