import Derived.Test.Qxb6619273aPlain
namespace Go.Proofs.Qxb6619273a

/-! ### From the shape to the nodes' rows: every position lies in its node's list -/

theorem nodup_le : ∀ (n : Nat) (l : List Int), l.Nodup → (∀ x ∈ l, 0 ≤ x ∧ x < n) → l.length ≤ n
  | 0, l, _, h => by
    cases l with
    | nil => simp
    | cons a l =>
      have := h a (by simp)
      omega
  | n + 1, l, nd, h => by
    by_cases hm : (n : Int) ∈ l
    · have h1 : (l.erase (n : Int)).length = l.length - 1 := List.length_erase_of_mem hm
      have h2 := nodup_le n (l.erase (n : Int)) (nd.erase _) (fun x hx => by
        have hx1 := (List.Nodup.mem_erase_iff nd).1 hx
        have := h x hx1.2
        have hne := hx1.1
        omega)
      omega
    · have h2 := nodup_le n l nd (fun x hx => by
        have := h x hx
        have hne : x ≠ (n : Int) := fun e => hm (e ▸ hx)
        omega)
      omega

theorem nodup_full : ∀ (n : Nat) (l : List Int), l.Nodup → (∀ x ∈ l, 0 ≤ x ∧ x < n) → n ≤ l.length → ∀ p : Nat, p < n → (p : Int) ∈ l
  | 0, _, _, _, _, p, hp => by omega
  | n + 1, l, nd, h, hlen, p, hp => by
    by_cases hm : (n : Int) ∈ l
    · by_cases hpn : p = n
      · subst hpn
        exact hm
      · have h1 : (l.erase (n : Int)).length = l.length - 1 := List.length_erase_of_mem hm
        have h2 := nodup_full n (l.erase (n : Int)) (nd.erase _) (fun x hx => by
          have hx1 := (List.Nodup.mem_erase_iff nd).1 hx
          have := h x hx1.2
          have hne := hx1.1
          omega) (by omega) p (by omega)
        exact List.mem_of_mem_erase h2
    · have h2 := nodup_le n l nd (fun x hx => by
        have := h x hx
        have hne : x ≠ (n : Int) := fun e => hm (e ▸ hx)
        omega)
      omega

theorem atL_get {G : List (List Int)} {i : Nat} (h : i < G.length) : atL G i = G[i] := by
  unfold atL
  simp [List.getD, h]

theorem shape_all {N I : List Int} {G : List (List Int)} {n M K : Nat} (h : Shape N I G n M K) (hG : G.length = M) {p : Nat} (hp : p < n) : ∃ node, node < M ∧ (p : Int) ∈ atL G node := by
  have hrow : ∀ i (hi : i < G.length), Part N G[i] n i (G[i]).length := fun i hi => by
    have := h.rows i (by omega)
    rw [atL_get hi] at this
    exact this
  have hmem : ∀ i (hi : i < G.length) x, x ∈ G[i] → 0 ≤ x ∧ x < n ∧ atI N x.toNat = i := fun i hi x hx => by
    obtain ⟨j, hj, rfl⟩ := mem_at.1 hx
    exact (hrow i hi).1 j hj
  have nd : G.flatten.Nodup := by
    unfold List.Nodup
    rw [List.pairwise_flatten]
    constructor
    · intro l hl
      obtain ⟨i, hi, rfl⟩ := List.mem_iff_getElem.1 hl
      have hr : Rising G[i] := (hrow i hi).2
      rw [rising_iff] at hr
      exact hr.imp (fun hlt => by omega)
    · rw [List.pairwise_iff_getElem]
      intro i j hi hj hij x hx y hy e
      have h1 := (hmem i hi x hx).2.2
      have h2 := (hmem j hj y hy).2.2
      rw [e] at h1
      omega
  have hlen : G.flatten.length = n := by
    rw [List.length_flatten, ← h.sum]
    unfold total
    rw [← hG, List.take_length]
  have hin : ∀ x ∈ G.flatten, 0 ≤ x ∧ x < (n : Int) := fun x hx => by
    obtain ⟨l, hl, hxl⟩ := List.mem_flatten.1 hx
    obtain ⟨i, hi, rfl⟩ := List.mem_iff_getElem.1 hl
    have := hmem i hi x hxl
    omega
  have hp2 := nodup_full n G.flatten nd hin (by omega) p hp
  obtain ⟨l, hl, hxl⟩ := List.mem_flatten.1 hp2
  obtain ⟨i, hi, rfl⟩ := List.mem_iff_getElem.1 hl
  exact ⟨i, by omega, by rw [atL_get hi]; exact hxl⟩

theorem Shape.node {N I : List Int} {G : List (List Int)} {n M K : Nat} (h : Shape N I G n M K) (hG : G.length = M) {node : Nat} (hn : node < M) : NodeRow N n (node : Int) (atL G node) := by
  have hr := h.rows node hn
  have hinto : ∀ j, j < (atL G node).length → ∃ y : Nat, atI (atL G node) j = (y : Int) ∧ y < n ∧ atI N y = node := fun j hj => by
    obtain ⟨a, b, c⟩ := hr.1 j hj
    obtain ⟨y, hy⟩ := Int.eq_ofNat_of_zero_le a
    rw [hy, Int.toNat_natCast] at c
    exact ⟨y, hy, by omega, c⟩
  refine ⟨hr.2, hinto, fun p hp hN => ?_⟩
  obtain ⟨node', h1, h2⟩ := shape_all h hG hp
  obtain ⟨j, hj, hje⟩ := mem_at.1 h2
  have := ((h.rows node' h1).1 j hj).2.2
  rw [hje, Int.toNat_natCast, hN] at this
  have e : node' = node := by omega
  rw [← e]
  exact h2

theorem Shape.len {N I : List Int} {G : List (List Int)} {n M K : Nat} (h : Shape N I G n M K) {node : Nat} (hn : node < M) : (atL G node).length ≤ n := by
  have hr := h.rows node hn
  refine nodup_le n _ ?_ (fun x hx => ?_)
  · have hr2 : Rising (atL G node) := hr.2
    rw [rising_iff] at hr2
    exact hr2.imp (fun hlt => by omega)
  · obtain ⟨j, hj, rfl⟩ := mem_at.1 hx
    obtain ⟨a, b, _⟩ := hr.1 j hj
    exact ⟨a, b⟩
end Go.Proofs.Qxb6619273a
