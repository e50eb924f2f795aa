import Derived.Test.Qxb6619273aFirst
namespace Go.Proofs.Qxb6619273a
open Go.RowKit

/-- The first k positions of a node's list: rising, in range, each an access of that node. -/
def Part (N L : List Int) (n node k : Nat) : Prop :=
  (∀ j, j < k → 0 ≤ atI L j ∧ atI L j < n ∧ atI N (atI L j).toNat = node) ∧ ∀ i j, i < j → j < k → atI L i < atI L j

def total (G : List (List Int)) (k : Nat) : Nat := ((G.take k).map List.length).sum

theorem total_zero (G : List (List Int)) : total G 0 = 0 := by simp [total]
theorem total_succ {G : List (List Int)} {k : Nat} (h : k < G.length) : total G (k + 1) = total G k + (atL G k).length := by
  unfold total atL
  rw [List.take_succ_eq_append_getElem h, List.map_append, List.sum_append]
  simp [List.getD, List.getElem?_eq_getElem h]

structure Shape (N I : List Int) (G : List (List Int)) (n M K : Nat) : Prop where
  pos : ∀ p, p < n → (0 ≤ atI N p ∧ atI N p < M) ∧ 0 ≤ atI I p ∧ atI I p < K
  rows : ∀ node, node < M → Part N (atL G node) n node (atL G node).length
  sum : total G M = n

def RetShape (e : Ending) (N I : List Int) (G : List (List Int)) (n M K n3 n4 n5 : Nat) (u v : Int) : Prop :=
  ∃ b : Bool, e = .returned (.bool b) ∧ (b = true → (n3 = n ∧ n4 = n ∧ n5 = M) ∧ (0 ≤ u ∧ u < M) ∧ (0 ≤ v ∧ v < M) ∧ Shape N I G n M K)

theorem ret_no {N I : List Int} {G : List (List Int)} {n M K n3 n4 n5 : Nat} {u v : Int} : RetShape (.returned (.bool false)) N I G n M K n3 n4 n5 u v := ⟨false, rfl, fun h => by cases h⟩

theorem part_step {N L : List Int} {n node k y : Nat} {prev : Int} (h : Part N L n node k ∧ ∀ j, j < k → atI L j ≤ prev) (hx : (y : Int) = atI L k) (h1 : prev < (y : Int)) (h2 : (y : Int) < n) (h3 : 0 ≤ (y : Int)) (h4 : atI N y = node) :
    Part N L n node (k + 1) ∧ ∀ j, j < k + 1 → atI L j ≤ (y : Int) := by
  obtain ⟨⟨a, b⟩, c⟩ := h
  refine ⟨⟨fun j hj => ?_, fun i j hij hj => ?_⟩, fun j hj => ?_⟩
  · rcases Nat.lt_or_ge j k with h' | h'
    · exact a j h'
    · obtain rfl : j = k := by omega
      rw [← hx]
      exact ⟨h3, h2, by simpa using h4⟩
  · rcases Nat.lt_or_ge j k with h' | h'
    · exact b i j hij h'
    · obtain rfl : j = k := by omega
      have := c i hij
      omega
  · rcases Nat.lt_or_ge j k with h' | h'
    · have := c j h'
      omega
    · obtain rfl : j = k := by omega
      omega

set_option maxHeartbeats 2000000 in
set_option maxRecDepth 100000 in
theorem shape_any (p0 p1 p2 p3 p4 p5 : Option Addr) (M K n n3 n4 n5 c0 c1 c2 c3 c4 c5 : Nat) (N I : List Int) (G : List (List Int)) (u v : Int) (w : World)
    (h2 : n = N.length) (h3 : n3 = I.length) (h5 : n5 = G.length) (hb : n ≤ 4096) (hM : M ≤ 4096)
    (hN : Row w p2 (N.map encI)) (hI : Row w p3 (I.map encI)) (hG : Grid w p5 G) :
    Calls Try.prog 12 #[.slice p0 M c0, .slice p1 K c1, .slice p2 n c2, .slice p3 n3 c3, .slice p4 n4 c4, .slice p5 n5 c5, .int .i64 u, .int .i64 v] w fun e w' => RetShape e N I G n M K n3 n4 n5 u v ∧ w' = w := by
  have H2 := hide h2
  have H3 := hide h3
  have H5 := hide h5
  have HN := hide hN
  have HI := hide hI
  have HG := hide hG
  clear h2 h3 h5 hN hI hG
  by_cases l3 : n3 = n
  case neg =>
    have g3 : ((n3 : Int) != (n : Int)) = true := by simp; omega
    go_enter Try.func12, Try.ntmps12
    go_wp2_with fail
    all_goals
      go_ret
      exact ⟨ret_no, rfl⟩
  subst l3
  by_cases l4 : n4 = n3
  case neg =>
    have g3 : ((n4 : Int) != (n3 : Int)) = true := by simp; omega
    go_enter Try.func12, Try.ntmps12
    go_wp2_with fail
    all_goals
      go_ret
      exact ⟨ret_no, rfl⟩
  subst l4
  by_cases l5 : n5 = M
  case neg =>
    have g3 : ((n5 : Int) != (M : Int)) = true := by simp; omega
    go_enter Try.func12, Try.ntmps12
    go_wp2_with fail
    all_goals
      go_ret
      exact ⟨ret_no, rfl⟩
  subst l5
  go_enter Try.func12, Try.ntmps12
  go_wp2_with fail
  any_goals
    go_ret
    exact ⟨ret_no, rfl⟩
  have hu : 0 ≤ u ∧ u < n5 := by omega
  have hv : 0 ≤ v ∧ v < n5 := by omega
  go_loopw [18] (fun x wr => ∃ (p : Nat), p ≤ n4 ∧ x = .int .i64 p ∧ wr = w ∧ Hid (∀ p', p' < p → (0 ≤ atI N p' ∧ atI N p' < n5) ∧ 0 ≤ atI I p' ∧ atI I p' < K)) (fun x _ => n4 - (intOf x).toNat)
  case atStart => exact ⟨0, Nat.zero_le _, rfl, rfl, fun p' h => absurd h (Nat.not_lt_zero _)⟩
  case round =>
    obtain ⟨p, hp, rfl, hwr, HL⟩ := hrel
    obtain rfl := hwr.symm
    clear hwr
    by_cases hlt : p < n4
    · obtain ⟨b2, o2, rfl, k2⟩ := Row.at (d := 0) HN.out H2.out hlt
      obtain ⟨b3, o3, rfl, k3⟩ := Row.at (d := 0) HI.out H3.out hlt
      have e2 : w.cell? ⟨b2, o2 + p, none⟩ = some (.int .i64 (atI N p)) := k2 p hlt
      have e3 : w.cell? ⟨b3, o3 + p, none⟩ = some (.int .i64 (atI I p)) := k3 p hlt
      clear k2 k3
      go_wp2_with fail
      any_goals
        go_ret
        exact ⟨ret_no, rfl⟩
      have hNI : (0 ≤ atI N p ∧ atI N p < n5) ∧ 0 ≤ atI I p ∧ atI I p < K := by omega
      refine ⟨⟨p + 1, by omega, by go_num, trivial, fun p' hp' => ?_⟩, by simp [intOf]; omega⟩
      rcases Nat.lt_or_ge p' p with h' | h'
      · exact HL.out p' h'
      · obtain rfl : p' = p := by omega
        exact hNI
    · obtain rfl : n4 = p := by omega
      go_wp2_with fail
      go_loopw [19, 20] (fun c x wr => ∃ (node t : Nat), node ≤ n5 ∧ x = .int .i64 node ∧ c = .int .i64 t ∧ t ≤ node * 4096 ∧ wr = w ∧ Hid (t = total G node ∧ ∀ m, m < node → Part N (atL G m) n4 m (atL G m).length)) (fun _ x _ => n5 - (intOf x).toNat)
      case atStart => exact ⟨0, 0, Nat.zero_le _, rfl, rfl, Nat.zero_le _, rfl, (total_zero _).symm, fun m h => absurd h (Nat.not_lt_zero _)⟩
      case round =>
        obtain ⟨node, t, hnode, rfl, rfl, htb, hwr, HT⟩ := hrel
        obtain rfl := hwr.symm
        clear hwr
        by_cases hlt2 : node < n5
        · rcases HG.out with h | ⟨b, o, A, C, rfl, h⟩
          · exact absurd hlt2 (by rw [H5.out, h]; simp)
          have e1 := (h node (by rw [← H5.out]; exact hlt2)).1
          have HR := hide (h node (by rw [← H5.out]; exact hlt2)).2
          clear h
          obtain ⟨L, hL⟩ : ∃ L, L = atL G node := ⟨_, rfl⟩
          rw [← hL] at e1 HR
          have HLL := hide hL
          clear hL
          obtain ⟨ln, hln⟩ : ∃ ln, ln = L.length := ⟨_, rfl⟩
          rw [← hln] at e1
          have HLN := hide hln
          clear hln
          go_wp2_with fail
          clear e1
          go_loopw [19, 21, 23] (fun c x21 x wr => ∃ (k s : Nat) (prev : Int), k ≤ ln ∧ x = .int .i64 k ∧ c = .int .i64 s ∧ x21 = .int .i64 prev ∧ s = t + k ∧ (k : Int) ≤ prev + 1 ∧ prev < n4 ∧ wr = w ∧ Hid (Part N L n4 node k ∧ ∀ j, j < k → atI L j ≤ prev)) (fun _ _ x _ => ln - (intOf x).toNat)
          case atStart => exact ⟨0, t, -1, Nat.zero_le _, rfl, rfl, rfl, rfl, by omega, by omega, rfl, ⟨fun j h => absurd h (Nat.not_lt_zero _), fun i j _ h => absurd h (Nat.not_lt_zero _)⟩, fun j h => absurd h (Nat.not_lt_zero _)⟩
          case round =>
            obtain ⟨k, s, prev, hk, rfl, rfl, rfl, hs, hkp, hpn, hwr, HP⟩ := hrel
            obtain rfl := hwr.symm
            clear hwr
            by_cases hlt3 : k < ln
            · obtain ⟨b6, o6, hA6, k6⟩ := Row.at (d := 0) HR.out HLN.out hlt3
              have e6 : w.cell? ⟨b6, o6 + k, none⟩ = some (.int .i64 (atI L k)) := k6 k hlt3
              clear k6
              rw [hA6]
              obtain ⟨x, hx⟩ : ∃ x, x = atI L k := ⟨_, rfl⟩
              rw [← hx] at e6
              have HX := hide hx
              clear hx
              by_cases hok : prev < x ∧ x < n4
              · obtain ⟨hx1, hx2⟩ := hok
                obtain ⟨y, rfl⟩ : ∃ y : Nat, x = (y : Int) := ⟨x.toNat, by omega⟩
                obtain ⟨b2, o2, rfl, k2⟩ := Row.at (d := 0) HN.out H2.out (j := y) (by omega)
                have e2 : w.cell? ⟨b2, o2 + y, none⟩ = some (.int .i64 (atI N y)) := k2 y (by omega)
                clear k2
                by_cases hnd : atI N y = node
                · have HP2 : Hid (Part N L n4 node (k + 1) ∧ ∀ j, j < k + 1 → atI L j ≤ (y : Int)) := part_step HP.out HX.out hx1 hx2 (by omega) hnd
                  go_wp2_with fail
                  exact ⟨⟨k + 1, t + k + 1, y, by omega, by go_num, by go_num, rfl, by omega, by omega, hx2, trivial, HP2⟩, by simp [intOf]; omega⟩
                · have gnd : (atI N y != (node : Int)) = true := by simp [hnd]
                  go_wp2_with fail
                  go_ret
                  exact ⟨ret_no, rfl⟩
              · go_wp2_with fail
                all_goals
                  go_ret
                  exact ⟨ret_no, rfl⟩
            · obtain rfl : ln = k := by omega
              go_wp2_with fail
              refine ⟨⟨node + 1, s, by omega, by go_num, rfl, by omega, trivial, ?_, fun m hm => ?_⟩, by simp [intOf]; omega⟩
              · rw [total_succ (by rw [← H5.out]; exact hlt2), ← HLL.out, ← HLN.out, ← HT.out.1, hs]
              · rcases Nat.lt_or_ge m node with h' | h'
                · exact HT.out.2 m h'
                · obtain rfl : m = node := by omega
                  rw [← HLL.out, ← HLN.out]
                  exact HP.out.1
        · obtain rfl : n5 = node := by omega
          have HF : Hid (∀ b : Bool, ((t : Int) == (n4 : Int)) = b → RetShape (.returned (.bool b)) N I G n4 n5 K n4 n4 n5 u v) := fun b hb => ⟨b, rfl, fun h => by
            subst h
            have ht : t = n4 := by
              have : (t : Int) = n4 := by simpa using hb
              omega
            exact ⟨⟨rfl, rfl, rfl⟩, hu, hv, HL.out, HT.out.2, by rw [← HT.out.1]; exact ht⟩⟩
          go_wp2_with fail
          go_ret
          exact ⟨HF.out _ rfl, rfl⟩
end Go.Proofs.Qxb6619273a
