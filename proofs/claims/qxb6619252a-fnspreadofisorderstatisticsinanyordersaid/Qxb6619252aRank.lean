import Derived.Test.Qxb6619252aMed
namespace Go.Proofs.Qxb6619252a
open Go.Sort

/-- Ascending: no later one is less than an earlier one. -/
def Asc (l : List Nat) : Prop := ∀ i j, i < j → j < l.length → ltF (fig l j) (fig l i) = false

theorem fig_mem {l : List Nat} {i : Nat} (h : i < l.length) : fig l i ∈ l := by
  unfold fig
  simp [List.getD, List.getElem?_eq_getElem h]

theorem fig_cons_zero (a : Nat) (l : List Nat) : fig (a :: l) 0 = a := rfl
theorem fig_cons_succ (a : Nat) (l : List Nat) (i : Nat) : fig (a :: l) (i + 1) = fig l i := rfl

/-- If the first k places all have p then at least k do. -/
theorem count_ge {l : List Nat} {p : Nat → Bool} : ∀ {k : Nat}, k ≤ l.length → (∀ j, j < k → p (fig l j) = true) → k ≤ l.countP p := by
  induction l with
  | nil => intro k hk _; simp at hk; omega
  | cons a l ih =>
    intro k hk h
    cases k with
    | zero => omega
    | succ k =>
      have h0 := h 0 (by omega)
      rw [fig_cons_zero] at h0
      rw [List.countP_cons_of_pos h0]
      have := ih (k := k) (by simpa using hk) (fun j hj => by have := h (j + 1) (by omega); rwa [fig_cons_succ] at this)
      omega

/-- If only the first k places can have p then at most k do. -/
theorem count_le {l : List Nat} {p : Nat → Bool} : ∀ {k : Nat}, (∀ j, k ≤ j → j < l.length → p (fig l j) = false) → l.countP p ≤ k := by
  induction l with
  | nil => intro k _; simp
  | cons a l ih =>
    intro k h
    cases k with
    | zero =>
      have h0 := h 0 (by omega) (by simp)
      rw [fig_cons_zero] at h0
      rw [List.countP_cons_of_neg (by simp [h0])]
      exact ih (fun j _ hl => by have := h (j + 1) (by omega) (by simpa using hl); rwa [fig_cons_succ] at this)
    | succ k =>
      have := ih (k := k) (fun j hj hl => by have := h (j + 1) (by omega) (by simpa using hl); rwa [fig_cons_succ] at this)
      have h2 := List.countP_cons (p := p) (a := a) (l := l)
      rw [h2]
      split <;> omega

theorem lt_of_not {x y z : Nat} (h1 : ltF x y = false) (h2 : ltF x z = true) : ltF y z = true := by
  cases h : ltF y z with
  | true => rfl
  | false => have := swo_ltF.ntrans x y z h1 h; rw [this] at h2; cases h2

theorem lt_of_not' {x y z : Nat} (h1 : ltF z y = false) (h2 : ltF x y = true) : ltF x z = true := by
  cases h : ltF x z with
  | true => rfl
  | false => have := swo_ltF.ntrans x z y h h1; rw [this] at h2; cases h2

theorem not_lt_unique {A B : List Nat} (hA : Asc A) (hB : Asc B) (hp : A.Perm B) {i : Nat} (hi : i < A.length) : ltF (fig A i) (fig B i) = false := by
  cases h : ltF (fig A i) (fig B i) with
  | false => rfl
  | true =>
    exfalso
    have h1 : i + 1 ≤ A.countP (fun y => ltF y (fig B i)) := count_ge hi (fun j hj => by
      rcases Nat.lt_or_eq_of_le (show j ≤ i by omega) with hlt | rfl
      · exact lt_of_not (hA j i hlt hi) h
      · exact h)
    have h2 : B.countP (fun y => ltF y (fig B i)) ≤ i := count_le (fun j hj hl => by
      rcases Nat.lt_or_eq_of_le hj with hlt | rfl
      · exact hB i j hlt hl
      · exact swo_ltF.irrefl _)
    have h3 := hp.countP_eq (fun y => ltF y (fig B i))
    omega

/-- Two ascending lists of the same figures are the same at each place. -/
theorem asc_unique {A B : List Nat} (hA : Asc A) (hB : Asc B) (hp : A.Perm B) {i : Nat} (hi : i < A.length) : Rel false (fig A i) (fig B i) := by
  rw [rel_iff_lt]
  exact ⟨not_lt_unique hA hB hp hi, not_lt_unique hB hA hp.symm (by rw [← hp.length_eq]; exact hi)⟩

theorem asc_sorted (zs : List Nat) : Asc (sortedOf zs) := fun i j hij hj => (sortedOf_holds zs).2 i j hij (by rw [sortedOf_length] at hj; exact hj)
theorem perm_sorted (zs : List Nat) : (sortedOf zs).Perm zs := (sortedOf_holds zs).1

/-- The sorted figures are those of any ascending list of the same figures. -/
theorem sorted_as {zs A : List Nat} (hA : Asc A) (hp : A.Perm zs) {i : Nat} (hi : i < zs.length) : Rel false (fig A i) (fig (sortedOf zs) i) :=
  asc_unique hA (asc_sorted zs) (hp.trans (perm_sorted zs).symm) (by rw [hp.length_eq]; exact hi)

/-- A figure of rank k is the k-th of the sorted ones. -/
theorem rank_is {zs : List Nat} {x k : Nat} (hk : k < zs.length) (h1 : zs.countP (fun y => ltF y x) ≤ k) (h2 : k < zs.countP (fun y => !ltF x y)) : Rel false x (fig (sortedOf zs) k) := by
  have hl := sortedOf_length zs
  rw [← (perm_sorted zs).countP_eq] at h1 h2
  rw [rel_iff_lt]
  constructor
  · cases h : ltF x (fig (sortedOf zs) k) with
    | false => rfl
    | true =>
      exfalso
      have : (sortedOf zs).countP (fun y => !ltF x y) ≤ k := count_le (fun j hj hlt => by
        have : ltF x (fig (sortedOf zs) j) = true := by
          rcases Nat.lt_or_eq_of_le hj with hlt' | rfl
          · exact lt_of_not' (asc_sorted zs k j hlt' hlt) h
          · exact h
        simp [this])
      omega
  · cases h : ltF (fig (sortedOf zs) k) x with
    | false => rfl
    | true =>
      exfalso
      have : k + 1 ≤ (sortedOf zs).countP (fun y => ltF y x) := count_ge (by omega) (fun j hj => by
        rcases Nat.lt_or_eq_of_le (show j ≤ k by omega) with hlt | rfl
        · exact lt_of_not (asc_sorted zs j k hlt (by omega)) h
        · exact h)
      omega

/-- The k-th of the sorted figures has rank k. -/
theorem rank_of {zs : List Nat} {k : Nat} (hk : k < zs.length) : zs.countP (fun y => ltF y (fig (sortedOf zs) k)) ≤ k ∧ k < zs.countP (fun y => !ltF (fig (sortedOf zs) k) y) := by
  have hl := sortedOf_length zs
  rw [← (perm_sorted zs).countP_eq, ← (perm_sorted zs).countP_eq]
  constructor
  · exact count_le (fun j hj hlt => by
      rcases Nat.lt_or_eq_of_le hj with hlt' | rfl
      · exact asc_sorted zs k j hlt' hlt
      · exact swo_ltF.irrefl _)
  · exact count_ge (k := k + 1) (by omega) (fun j hj => by
      rcases Nat.lt_or_eq_of_le (show j ≤ k by omega) with hlt | rfl
      · have := asc_sorted zs j k hlt (by omega)
        simp [this]
      · simp [swo_ltF.irrefl])

/-! ### A list of figures mirrored -/
theorem ltF_neg {x y : Nat} (hx : isNum x) (hy : isNum y) : ltF (negF x) (negF y) = ltF y x := by
  have h1 := rel_negF x
  have h2 := rel_negF y
  rcases h1 with ⟨h, _⟩ | ⟨_, kx, ex⟩
  · exact absurd hx h
  rcases h2 with ⟨h, _⟩ | ⟨_, ky, ey⟩
  · exact absurd hy h
  rw [Bool.eq_iff_iff, ltF_iff, ltF_iff, ex, ey]
  simp [hx, hy, kx, ky]

theorem fig_map (f : Nat → Nat) (l : List Nat) (i : Nat) (h : i < l.length) : fig (l.map f) i = f (fig l i) := by
  unfold fig
  simp [List.getD, h]

theorem fig_reverse (l : List Nat) (i : Nat) (h : i < l.length) : fig l.reverse i = fig l (l.length - 1 - i) := by
  unfold fig
  simp [List.getD, List.getElem?_reverse h]

theorem asc_mirror {l : List Nat} (h : Asc l) (hn : ∀ x ∈ l, isNum x) : Asc (l.map negF).reverse := by
  intro i j hij hj
  simp only [List.length_reverse, List.length_map] at hj
  rw [fig_reverse _ _ (by simpa using hj), fig_reverse _ _ (by simp; omega), fig_map _ _ _ (by simp; omega), fig_map _ _ _ (by simp; omega)]
  rw [ltF_neg (hn _ (fig_mem (by simp; omega))) (hn _ (fig_mem (by simp; omega)))]
  exact h _ _ (by simp; omega) (by simp; omega)

/-- The sorted mirrored figures are the sorted figures mirrored. -/
theorem sorted_mirror {zs : List Nat} (hn : ∀ x ∈ zs, isNum x) {i : Nat} (hi : i < zs.length) : Rel true (fig (sortedOf zs) (zs.length - 1 - i)) (fig (sortedOf (zs.map negF)) i) := by
  have hl := sortedOf_length zs
  have hn' : ∀ x ∈ sortedOf zs, isNum x := fun x hx => hn x ((perm_sorted zs).mem_iff.1 hx)
  have h := sorted_as (zs := zs.map negF) (asc_mirror (asc_sorted zs) hn') ((List.reverse_perm _).trans ((perm_sorted zs).map negF)) (i := i) (by simpa using hi)
  rw [fig_reverse _ _ (by simp; omega), fig_map _ _ _ (by simp; omega)] at h
  have e : ((sortedOf zs).map negF).length - 1 - i = zs.length - 1 - i := by simp [hl]
  rw [e] at h
  exact (rel_negF _).trans h

/-! ### A list of figures bracketed -/
theorem asc_bracket {l : List Nat} {a b : Nat} (h : Asc l) (h1 : ∀ x ∈ l, ltF x a = false) (h2 : ∀ x ∈ l, ltF b x = false) (h3 : ltF b a = false) : Asc (a :: (l ++ [b])) := by
  intro i j hij hj
  simp only [List.length_cons, List.length_append, List.length_nil, Nat.zero_add] at hj
  obtain ⟨j, rfl⟩ : ∃ k, j = k + 1 := ⟨j - 1, by omega⟩
  rw [fig_cons_succ]
  have hjl : fig (l ++ [b]) j = if j < l.length then fig l j else b := by
    unfold fig
    by_cases hlt : j < l.length
    · rw [if_pos hlt]; simp [List.getD, List.getElem?_append_left hlt]
    · rw [if_neg hlt]
      obtain rfl : j = l.length := by omega
      simp [List.getD]
  rw [hjl]
  cases i with
  | zero =>
    rw [fig_cons_zero]
    split
    · exact h1 _ (fig_mem ‹_›)
    · exact h3
  | succ i =>
    rw [fig_cons_succ]
    have hil : fig (l ++ [b]) i = fig l i := by
      unfold fig
      have hlt : i < l.length := by omega
      simp [List.getD, List.getElem?_append_left hlt]
    rw [hil]
    split
    · exact h i j (by omega) ‹_›
    · exact h2 _ (fig_mem (by omega))

theorem sorted_bracket {zs hs : List Nat} {a b : Nat} (h1 : ∀ x ∈ zs, ltF x a = false) (h2 : ∀ x ∈ zs, ltF b x = false) (h3 : ltF b a = false) (hp : hs.Perm (a :: (zs ++ [b]))) :
    Rel false a (fig (sortedOf hs) 0) ∧ Rel false b (fig (sortedOf hs) (zs.length + 1)) ∧ ∀ i, i < zs.length → Rel false (fig (sortedOf zs) i) (fig (sortedOf hs) (i + 1)) := by
  have hl := sortedOf_length zs
  have hm : ∀ x ∈ sortedOf zs, x ∈ zs := fun x hx => (perm_sorted zs).mem_iff.1 hx
  have hasc := asc_bracket (asc_sorted zs) (fun x hx => h1 x (hm x hx)) (fun x hx => h2 x (hm x hx)) h3
  have hperm : (a :: (sortedOf zs ++ [b])).Perm hs := (List.Perm.cons a ((perm_sorted zs).append_right [b])).trans hp.symm
  have hlen : hs.length = zs.length + 2 := by rw [hp.length_eq]; simp
  have key := fun i (hi : i < hs.length) => sorted_as hasc hperm hi
  refine ⟨?_, ?_, fun i hi => ?_⟩
  · have := key 0 (by omega)
    rwa [fig_cons_zero] at this
  · have := key (zs.length + 1) (by omega)
    rw [fig_cons_succ] at this
    have e : fig (sortedOf zs ++ [b]) zs.length = b := by
      unfold fig
      simp [List.getD, ← hl]
    rwa [e] at this
  · have := key (i + 1) (by omega)
    rw [fig_cons_succ] at this
    have e : fig (sortedOf zs ++ [b]) i = fig (sortedOf zs) i := by
      unfold fig
      have hlt : i < (sortedOf zs).length := by omega
      simp [List.getD, List.getElem?_append_left hlt]
    rwa [e] at this
end Go.Proofs.Qxb6619252a
