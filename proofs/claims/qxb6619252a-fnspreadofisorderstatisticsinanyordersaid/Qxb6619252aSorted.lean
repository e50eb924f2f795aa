import Derived.Test.Qxb6619252aSort
import Derived.Test.Qxb6619252aIter
namespace Go.Proofs.Qxb6619252a
open Go.RowKit Go.Sort
attribute [local go_sem] run_store_float

theorem hide {p : Prop} (h : p) : Hid p := h

/-! The sort's words and the walk's, at figures. -/
theorem holds_of_blockF {w : World} {g : Nat} {cur : Array Value} {e : TypeId} {ss : List Nat} (hb : w.heap[g]? = some (.cells cur e (0, 0))) (ht : cur.toList.take ss.length = ss.map encF) : Holds encF w g 0 ss.toArray := by
  intro j hj
  have hj' : j < ss.length := by simpa using hj
  refine ⟨?_, by simp [World.frozen?, hb]⟩
  have h1 : (cur.toList.take ss.length)[j]? = (ss.map encF)[j]? := by rw [ht]
  rw [List.getElem?_take_of_lt hj'] at h1
  simp only [World.cell?, hb, Nat.zero_add]
  simp only [Option.isSome_none, Bool.false_eq_true, if_false]
  rw [← Array.getElem?_toList, h1]
  simp [hj']

theorem heap_sortedF {w : World} {g n : Nat} {os : Array Obj} {cur : Array Value} {e : TypeId} {fr : Nat × Nat} (d : Array Nat) (hb : w.heap[g]? = some (.cells cur e fr)) :
    (grow (putRow encF (Sort.ahead w n) g 0 d) os).heap[g]? = some (.cells (putCells encF 0 d cur) e fr) := by
  have hg : g < w.heap.size := (Array.getElem?_eq_some_iff.1 hb).1
  rw [heap_grow_old _ _ (by simpa using hg)]
  simp [putRow, mapBlock, Sort.ahead, Array.getElem?_modify, hb, onCells]

theorem grownBy_sortedF {w : World} {g n : Nat} {os : Array Obj} (d : Array Nat) : w.grownBy (grow (putRow encF (Sort.ahead w n) g 0 d) os) (some g) := by
  refine ⟨rfl, rfl, rfl, by simp, fun k hk hne => ?_⟩
  rw [heap_grow_old _ _ (by simpa using hk)]
  have : g ≠ k := fun e => hne (by rw [e])
  simp [putRow, mapBlock, Sort.ahead, Array.getElem?_modify, this]

theorem take_putCellsF (cur : Array Value) (ts : List Nat) (h : ts.length ≤ cur.size) : (putCells encF 0 ts.toArray cur).toList.take ts.length = ts.map encF := by
  apply List.ext_getElem?
  intro j
  by_cases hj : j < ts.length
  · rw [List.getElem?_take_of_lt hj, Array.getElem?_toList]
    simp [putCells, hj, show j < cur.size by omega]
  · rw [List.getElem?_take_eq_none (by omega), List.getElem?_eq_none (by simp; omega)]

theorem ownsRow_sortedF {w : World} {base g cap n : Nat} {e : TypeId} {os : Array Obj} {cur : Array Value} {ss ts : List Nat} (hl : ts.length = ss.length) (hbase : base ≤ g) (hb : w.heap[g]? = some (.cells cur e (0, 0)))
    (h1 : ss.length ≤ cap) (h2 : cap ≤ maxLen) (h3 : cur.size = cap * 1) :
    (grow (putRow encF (Sort.ahead w n) g 0 ts.toArray) os).ownsRow base e 1 (.slice (some ⟨g, 0, none⟩) ss.length cap) ss.length (ts.map encF) :=
  ⟨by simp [hl], .inr ⟨g, cap, _, rfl, hbase, heap_sortedF _ hb, h1, h2, by simp [putCells, h3], by rw [Nat.mul_one, ← hl]; exact take_putCellsF cur ts (by omega)⟩⟩

/-- What the library makes of the figures. -/
def sortedOf (zs : List Nat) : List Nat := (Sort.sort ltF zs.toArray).toList

theorem sortedOf_holds (zs : List Nat) : (sortedOf zs).Perm zs ∧ ∀ i j, i < j → j < zs.length → ltF ((sortedOf zs).getD j 0) ((sortedOf zs).getD i 0) = false := by
  obtain ⟨⟨hsz, _, hp⟩, hs⟩ := sort_sorts ltF swo_ltF zs.toArray
  have e1 : ((Sort.sort ltF zs.toArray).extract 0 zs.toArray.size).toList = sortedOf zs := by
    unfold sortedOf
    rw [Array.extract_eq_self_of_le (by rw [hsz]; exact Nat.le_refl _)]
  have e2 : (zs.toArray.extract 0 zs.toArray.size).toList = zs := by simp
  refine ⟨by rw [← e1]; rw [e2] at hp; exact hp, fun i j hij hj => ?_⟩
  have h := hs i j (Nat.zero_le _) hij (by simpa using hj)
  have g : ∀ k, k < zs.length → (Sort.sort ltF zs.toArray)[k]! = (sortedOf zs).getD k 0 := fun k hk => by
    have : k < (Sort.sort ltF zs.toArray).size := by rw [hsz]; simpa using hk
    unfold sortedOf
    rw [getElem!_pos (Sort.sort ltF zs.toArray) k this]
    simp [List.getD, this]
  rw [g i (by omega), g j hj] at h
  exact h

theorem sortedOf_length (zs : List Nat) : (sortedOf zs).length = zs.length := (sortedOf_holds zs).1.length_eq

/-- It returns a slice of the call's own that owns these figures. -/
def RetFigs (e : Ending) (base : Nat) (w : World) (n : Nat) (ts : List Nat) : Prop := ∃ g cap, e = .returned (.slice (some ⟨g, 0, none⟩) n cap) ∧ w.ownsRow base 24 1 (.slice (some ⟨g, 0, none⟩) n cap) n (ts.map encF)

set_option maxHeartbeats 1000000 in
theorem collect_any (Bs : Nat) (p : Option Addr) (cap : Nat) (zs : List Nat) (hlen : zs.length ≤ 2097152) (hne : zs ≠ []) (w : World) (hBs : Bs < w.heap.size)
    (hc : w.cell? ⟨Bs, 0, none⟩ = some (.slice p zs.length cap)) (hI : Figs w.heap.size w p zs) :
    Calls Try.prog 16 #[.func (.func 18) #[] #[.pointer (some ⟨Bs, 0, none⟩)]] w fun e W' => RetFigs e w.heap.size W' zs.length zs ∧ Below w.heap.size w W' := by
  have hap := callsIn_wide.1 (appendSeq_in Fence.wide 3 trivial trivial rfl (Nat.le_refl _) Bs p cap zs hlen w hBs hc hI)
  have HA := hide (hap)
  clear hap hI hc
  go_enter Try.func16, Try.ntmps16
  go_wp2_with fail
  refine HA.out.mono ?_
  rintro e W' ⟨v, rfl, hown, hnil, hb⟩
  obtain ⟨g, cp, rfl⟩ : ∃ g cp, v = .slice (some ⟨g, 0, none⟩) zs.length cp := by
    rcases hown.2 with ⟨e, _⟩ | ⟨g, cp, _, e, _⟩
    · exact absurd (hnil.1 e) hne
    · exact ⟨g, cp, e⟩
  have HO := hide (hown)
  have HB := hide (hb)
  clear hown hnil hb HA
  go_wp2_with fail
  go_ret
  exact ⟨⟨g, cp, rfl, HO.out⟩, HB.out⟩

set_option maxHeartbeats 1000000 in
theorem sorted_any (Bs : Nat) (p : Option Addr) (cap : Nat) (zs : List Nat) (hlen : zs.length ≤ 2097152) (hne : zs ≠ []) (w : World) (hBs : Bs < w.heap.size)
    (hc : w.cell? ⟨Bs, 0, none⟩ = some (.slice p zs.length cap)) (hI : Figs w.heap.size w p zs) :
    Calls Try.prog 14 #[.func (.func 18) #[] #[.pointer (some ⟨Bs, 0, none⟩)]] w fun e W' => RetFigs e w.heap.size W' zs.length (sortedOf zs) ∧ Below w.heap.size w W' := by
  have HA := hide (collect_any Bs p cap zs hlen hne w hBs hc hI)
  clear hI hc
  go_enter Try.func14, Try.ntmps14
  go_wp2_with fail
  refine HA.out.mono ?_
  rintro e W1 ⟨⟨g, cp, rfl, hown⟩, hb⟩
  obtain ⟨cur, hbase, hg, h1, h2, h3, h4⟩ : ∃ cur, w.heap.size ≤ g ∧ W1.heap[g]? = some (.cells cur 24 (0, 0)) ∧ zs.length ≤ cp ∧ cp ≤ maxLen ∧ cur.size = cp * 1 ∧ cur.toList.take (zs.length * 1) = zs.map encF := by
    rcases hown.2 with ⟨e, _⟩ | ⟨g', cp', cur, e, r⟩
    · cases e
    · cases e
      exact ⟨cur, r⟩
  have hH : Holds encF W1 g 0 zs.toArray := holds_of_blockF hg (by simpa using h4)
  have hgl : g < W1.heap.size := (Array.getElem?_eq_some_iff.1 hg).1
  have cS := Sort_float g 0 cp zs.toArray W1 hH hgl (by simp; omega)
  simp only [List.size_toArray] at cS
  have HS := hide cS
  have HF : Hid (∀ n os, (grow (putRow encF (Sort.ahead W1 n) g 0 (Sort.sort ltF zs.toArray)) os).ownsRow w.heap.size 24 1 (.slice (some ⟨g, 0, none⟩) zs.length cp) zs.length ((sortedOf zs).map encF) ∧ Below w.heap.size w (grow (putRow encF (Sort.ahead W1 n) g 0 (Sort.sort ltF zs.toArray)) os)) := fun n os => by
    refine ⟨?_, hb.grown (grownBy_sortedF _) hb.size (fun j hj => by cases hj; exact hbase)⟩
    have := ownsRow_sortedF (n := n) (os := os) (ts := sortedOf zs) (sortedOf_length zs) hbase hg h1 h2 h3
    simpa [sortedOf] using this
  clear hown hb cS hH hg h4 HA h3
  go_wp2_with fail
  refine HS.out.mono ?_
  rintro e w' ⟨rfl, n, os, rfl⟩
  obtain ⟨hO, hB⟩ := HF.out n os
  have HO := hide (hO)
  have HB := hide (hB)
  clear hO hB HF HS
  generalize grow (putRow encF (Sort.ahead W1 n) g 0 (Sort.sort ltF zs.toArray)) os = W2 at *
  go_wp2_with fail
  go_ret
  exact ⟨⟨g, cp, rfl, HO.out⟩, HB.out⟩
end Go.Proofs.Qxb6619252a
