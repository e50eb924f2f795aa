import Derived.Test.Qxb6619273aTwo2
namespace Go.Proofs.Qxb6619273a
open Go.RowKit Go.Maps Go.ChangeShapes Go.MapKept

/-- The positions of the first k entries of L whose item is it. -/
def grp (I L : List Int) (k : Nat) (it : Int) : List Int := (L.take k).filter (fun p => atI I p.toNat == it)
/-- .. that are writes. -/
def grpW (I : List Int) (W : List Bool) (L : List Int) (k : Nat) (it : Int) : List Int := (L.take k).filter (fun p => atI I p.toNat == it && atB W p.toNat)

theorem take_step {L : List Int} {k : Nat} {y : Nat} (hy : atI L k = (y : Int)) (hk : k < L.length) : L.take (k + 1) = L.take k ++ [(y : Int)] := by
  rw [List.take_succ_eq_append_getElem hk]
  unfold atI at hy
  rw [List.getD, List.getElem?_eq_getElem hk] at hy
  simp only [Option.getD_some] at hy
  rw [hy]

theorem grp_step {I L : List Int} {k y : Nat} (hy : atI L k = (y : Int)) (hk : k < L.length) : upd (grp I L k) (atI I y) (grp I L k (atI I y) ++ [(y : Int)]) = grp I L (k + 1) := by
  funext j
  unfold upd grp
  rw [take_step hy hk, List.filter_append]
  by_cases h : j = atI I y
  · rw [if_pos h, h]
    simp
  · rw [if_neg h]
    have h2 : ¬ atI I y = j := fun e => h e.symm
    simp [h2]

theorem grpW_step {I L : List Int} {W : List Bool} {k y : Nat} (hy : atI L k = (y : Int)) (hk : k < L.length) : atB W y = true → upd (grpW I W L k) (atI I y) (grpW I W L k (atI I y) ++ [(y : Int)]) = grpW I W L (k + 1) := by
  intro hw
  funext j
  unfold upd grpW
  rw [take_step hy hk, List.filter_append]
  by_cases h : j = atI I y
  · rw [if_pos h, h]
    simp [hw]
  · rw [if_neg h]
    have h2 : ¬ atI I y = j := fun e => h e.symm
    simp [h2]

theorem grpW_skip {I L : List Int} {W : List Bool} {k y : Nat} (hy : atI L k = (y : Int)) (hk : k < L.length) : atB W y = false → grpW I W L (k + 1) = grpW I W L k := by
  intro hw
  funext j
  unfold grpW
  rw [take_step hy hk, List.filter_append]
  simp [hw]

/-! ### Rising lists -/

theorem rising_iff (L : List Int) : Rising L ↔ L.Pairwise (· < ·) := by
  rw [List.pairwise_iff_getElem]
  unfold Rising atI
  constructor
  · intro h i j hi hj hij
    have := h i j hij hj
    simpa [List.getD, hi, hj] using this
  · intro h i j hij hj
    have := h i j (by omega) hj hij
    simpa [List.getD, hj, show i < L.length by omega] using this

theorem Rising.filter {L : List Int} (h : Rising L) (p : Int → Bool) : Rising (L.filter p) := by
  rw [rising_iff] at *
  exact h.filter p

theorem mem_at {L : List Int} {x : Int} : x ∈ L ↔ ∃ i, i < L.length ∧ atI L i = x := by
  unfold atI
  constructor
  · intro h
    obtain ⟨i, hi, rfl⟩ := List.mem_iff_getElem.1 h
    exact ⟨i, hi, by simp [List.getD, hi]⟩
  · rintro ⟨i, hi, rfl⟩
    simp [List.getD, hi]

theorem Rising.mono {L : List Int} (h : Rising L) {i j : Nat} (hi : i < L.length) (hlt : atI L i < atI L j) : i < j ∨ L.length ≤ j := by
  rcases Nat.lt_or_ge i j with h1 | h1
  · exact .inl h1
  · rcases Nat.lt_or_ge j L.length with h2 | h2
    · rcases Nat.eq_or_lt_of_le h1 with h3 | h3
      · subst h3
        omega
      · have := h j i h3 hi
        omega
    · exact .inr h2

/-- The candidates for an access p of u: the later accesses of v at its item. -/
def cand (I : List Int) (W : List Bool) (L : List Int) (it : Int) (wp : Bool) : List Int := if wp then grp I L L.length it else grpW I W L L.length it

theorem cand_rising {I : List Int} {W : List Bool} {L : List Int} (h : Rising L) (it : Int) (wp : Bool) : Rising (cand I W L it wp) := by
  unfold cand grp grpW
  rw [List.take_length]
  split
  · exact h.filter _
  · exact h.filter _

theorem cand_len (I : List Int) (W : List Bool) (L : List Int) (it : Int) (wp : Bool) : (cand I W L it wp).length ≤ L.length := by
  unfold cand grp grpW
  rw [List.take_length]
  split
  · exact List.length_filter_le _ _
  · exact List.length_filter_le _ _

theorem mem_cand {I : List Int} {W : List Bool} {L : List Int} {it : Int} {wp : Bool} {q : Int} : q ∈ cand I W L it wp ↔ q ∈ L ∧ atI I q.toNat = it ∧ (wp = true ∨ atB W q.toNat = true) := by
  unfold cand grp grpW
  rw [List.take_length]
  cases wp
  · simp
  · simp

/-- What the graph's shape gives of one node's list. -/
structure NodeRow (N : List Int) (n : Nat) (node : Int) (L : List Int) : Prop where
  rise : Rising L
  into : ∀ j, j < L.length → ∃ y : Nat, atI L j = (y : Int) ∧ y < n ∧ atI N y = node
  all : ∀ p, p < n → atI N p = node → (p : Int) ∈ L

/-- No candidate behind the first j accesses of u. -/
def NoHit (I : List Int) (W : List Bool) (Lu Lv : List Int) (j : Nat) : Prop :=
  ∀ i, i < j → ∀ q, q ∈ cand I W Lv (atI I (atI Lu i).toNat) (atB W (atI Lu i).toNat) → q ≤ atI Lu i

theorem NoHit.step {I : List Int} {W : List Bool} {Lu Lv : List Int} {j y c : Nat} (h : NoHit I W Lu Lv j) (hy : atI Lu j = (y : Int)) (hc : Cut (cand I W Lv (atI I y) (atB W y)) ((y : Int) + 1) c) (hlen : ¬ c < (cand I W Lv (atI I y) (atB W y)).length) : NoHit I W Lu Lv (j + 1) := by
  intro i hi q hq
  rcases Nat.lt_or_ge i j with h1 | h1
  · exact h i h1 q hq
  · obtain rfl : i = j := by omega
    rw [hy] at hq ⊢
    rw [Int.toNat_natCast] at hq
    obtain ⟨k, hk, rfl⟩ := mem_at.1 hq
    have := hc.2.1 k (by omega)
    omega

/-- The first hit is the least conflict. -/
theorem hit_least {N I : List Int} {W : List Bool} {n : Nat} {u v : Int} {Lu Lv : List Int} (hu : NodeRow N n u Lu) (hv : NodeRow N n v Lv) {j y c : Nat} (h : NoHit I W Lu Lv j) (hj : j < Lu.length) (hy : atI Lu j = (y : Int))
    (hc : Cut (cand I W Lv (atI I y) (atB W y)) ((y : Int) + 1) c) (hlen : c < (cand I W Lv (atI I y) (atB W y)).length) :
    ∃ q : Nat, atI (cand I W Lv (atI I y) (atB W y)) c = (q : Int) ∧ y < n ∧ q < n ∧ Least N I W u v n y q := by
  obtain ⟨y', e1, e2, e3⟩ := hu.into j hj
  obtain rfl : y' = y := by omega
  have hmem : atI (cand I W Lv (atI I y') (atB W y')) c ∈ cand I W Lv (atI I y') (atB W y') := mem_at.2 ⟨c, hlen, rfl⟩
  obtain ⟨m1, m2, m3⟩ := mem_cand.1 hmem
  obtain ⟨i, hi, hie⟩ := mem_at.1 m1
  obtain ⟨q, f1, f2, f3⟩ := hv.into i hi
  have hq : atI (cand I W Lv (atI I y') (atB W y')) c = (q : Int) := by rw [← hie, f1]
  rw [hq, Int.toNat_natCast] at m2 m3
  have hgt := hc.2.2 c (Nat.le_refl _) hlen
  rw [hq] at hgt
  refine ⟨q, hq, e2, f2, ⟨by omega, f2, e3, f3, m2, m3⟩, ?_, ?_⟩
  · intro p' q' hp' hcf
    obtain ⟨c1, c2, c3, c4, c5, c6⟩ := hcf
    obtain ⟨i', hi', hie'⟩ := mem_at.1 (hu.all p' (by omega) c3)
    rcases hu.rise.mono hi' (j := j) (by rw [hie', hy]; omega) with h1 | h1
    · have hq' : (q' : Int) ∈ cand I W Lv (atI I p') (atB W p') := by
        rw [mem_cand]
        exact ⟨hv.all q' c2 c4, by rw [Int.toNat_natCast]; exact c5, by rw [Int.toNat_natCast]; exact c6⟩
      have := h i' h1 q' (by rw [hie', Int.toNat_natCast]; exact hq')
      rw [hie'] at this
      omega
    · omega
  · intro q' hlt hcf
    obtain ⟨c1, c2, c3, c4, c5, c6⟩ := hcf
    have hq' : (q' : Int) ∈ cand I W Lv (atI I y') (atB W y') := by
      rw [mem_cand]
      exact ⟨hv.all q' c2 c4, by rw [Int.toNat_natCast]; exact c5, by rw [Int.toNat_natCast]; exact c6⟩
    obtain ⟨i', hi', hie'⟩ := mem_at.1 hq'
    rcases (cand_rising hv.rise (atI I y') (atB W y')).mono hi' (j := c) (by rw [hie', hq]; omega) with h1 | h1
    · have := hc.2.1 i' h1
      rw [hie'] at this
      omega
    · omega

/-- With no hit at all there is no conflict. -/
theorem nohit_none {N I : List Int} {W : List Bool} {n : Nat} {u v : Int} {Lu Lv : List Int} (hu : NodeRow N n u Lu) (hv : NodeRow N n v Lv) (h : NoHit I W Lu Lv Lu.length) {p q : Nat} : ¬ Conf N I W u v n p q := by
  rintro ⟨c1, c2, c3, c4, c5, c6⟩
  obtain ⟨i', hi', hie'⟩ := mem_at.1 (hu.all p (by omega) c3)
  have hq' : (q : Int) ∈ cand I W Lv (atI I p) (atB W p) := by
    rw [mem_cand]
    exact ⟨hv.all q c2 c4, by rw [Int.toNat_natCast]; exact c5, by rw [Int.toNat_natCast]; exact c6⟩
  have := h i' hi' q (by rw [hie', Int.toNat_natCast]; exact hq')
  rw [hie'] at this
  omega

theorem least_unique {N I : List Int} {W : List Bool} {u v : Int} {n p q p' q' : Nat} (h : Least N I W u v n p q) (h' : Least N I W u v n p' q') : p = p' ∧ q = q' := by
  obtain ⟨a, b, c⟩ := h
  obtain ⟨a', b', c'⟩ := h'
  have e : p = p' := by
    rcases Nat.lt_trichotomy p p' with h | h | h
    · exact absurd a (b' p q h)
    · exact h
    · exact absurd a' (b p' q' h)
  subst e
  refine ⟨rfl, ?_⟩
  rcases Nat.lt_trichotomy q q' with h | h | h
  · exact absurd a (c' q h)
  · exact h
  · exact absurd a' (c q' h)
end Go.Proofs.Qxb6619273a
