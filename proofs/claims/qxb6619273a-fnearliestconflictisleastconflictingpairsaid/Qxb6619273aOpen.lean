import Derived.Test.Qxb6619273aRows
import Derived.Test.Qxb6619273aBase
import Derived.ProofKit
import Derived.OpenShut
import Derived.ChangeOld
import Derived.Deep.Slices
import Derived.Deep.Matrix
namespace Go.Proofs.Qxb6619273a
open Go.ChangeShapes Go.WideShapes Go.ChangeAt Go.RowKit

theorem own : ownKnob Try.prog.godebug = none := by kernel_rfl
theorem laidOut : laidOutB Try.prog = true := by kernel_rfl
theorem cells38 : Try.prog.cellsOf 38 = 1 := by kernel_rfl
theorem cells9 : Try.prog.cellsOf 9 = 1 := by kernel_rfl
theorem cells3 : Try.prog.cellsOf 3 = 1 := by kernel_rfl
theorem cells4 : Try.prog.cellsOf 4 = 1 := by kernel_rfl
theorem cells31 : Try.prog.cellsOf 31 = 1 := by kernel_rfl

/-- Cells behind an address are behind a plain one. -/
theorem plain_at {w : World} {x : Addr} {v : Value} (h : w.cell? x = some v) : x = ⟨x.block, x.off, none⟩ := by
  obtain ⟨b, o, s⟩ := x
  have : s = none := World.cell?_spot h
  subst this
  rfl

theorem trod_u64 {H : Type} {enc : TypeId × Value → H} {W : World} {n : Nat} {v : Value} {x : DataW H × List MemPlace}
    (h : DataW.trod enc Try.prog W 0 (fun _ => true) true n 38 [v] = some x) : ∃ b, v = encU b := by
  cases n with
  | zero => simp [DataW.trod] at h
  | succ m =>
    simp only [DataW.trod, Try.underlying38] at h
    cases v <;> simp at h
    rename_i k b
    obtain ⟨h1, _⟩ := h
    exact ⟨b, by rw [h1.1]; rfl⟩

theorem trod_i64 {H : Type} {enc : TypeId × Value → H} {W : World} {n : Nat} {v : Value} {x : DataW H × List MemPlace}
    (h : DataW.trod enc Try.prog W 0 (fun _ => true) true n 3 [v] = some x) : ∃ b, v = encI b := by
  cases n with
  | zero => simp [DataW.trod] at h
  | succ m =>
    simp only [DataW.trod, Try.underlying3] at h
    cases v <;> simp at h
    rename_i k b
    obtain ⟨h1, _⟩ := h
    exact ⟨b, by rw [h1.1]; rfl⟩

theorem trod_bool {H : Type} {enc : TypeId × Value → H} {W : World} {n : Nat} {v : Value} {x : DataW H × List MemPlace}
    (h : DataW.trod enc Try.prog W 0 (fun _ => true) true n 4 [v] = some x) : ∃ b, v = encB b := by
  cases n with
  | zero => simp [DataW.trod] at h
  | succ m =>
    simp only [DataW.trod, Try.underlying4] at h
    cases v <;> simp at h
    exact ⟨_, rfl⟩

theorem trod_string {H : Type} {enc : TypeId × Value → H} {W : World} {n : Nat} {v : Value} {x : DataW H × List MemPlace}
    (h : DataW.trod enc Try.prog W 0 (fun _ => true) true n 9 [v] = some x) : ∃ b, v = encS b := by
  cases n with
  | zero => simp [DataW.trod] at h
  | succ m =>
    simp only [DataW.trod, Try.underlying9] at h
    cases v <;> simp at h
    exact ⟨_, rfl⟩

/-- A slice of one-cell elements, opened. -/
theorem open_any {H : Type} {enc : TypeId × Value → H} {W : World} {t e : TypeId} {α : Type} [Inhabited α] {encv : α → Value} (ht : Try.prog.underlying t = some (.slice e)) (hc : Try.prog.cellsOf e = 1)
    (hread : ∀ (n : Nat) (v : Value) (x : DataW H × List MemPlace), DataW.trod enc Try.prog W 0 (fun _ => true) true n e [v] = some x → ∃ b, v = encv b)
    {a : Option Addr} {len cap : Nat} {d : DataW H} {ps : List MemPlace}
    (h : DataW.Trod enc Try.prog W 0 (fun _ => true) true t (.slice a len cap) d ps) : ∃ l : List α, len = l.length ∧ Row W a (l.map encv) := by
  obtain ⟨fuel, hf⟩ := h
  rcases Go.Deep.open_slice1 ht hc hf with ⟨hcs, _⟩ | ⟨x, l, c, m, n, V, D, Pl, hcs, _, hl, hm, hmm, _, hx⟩
  · simp [Value.cells] at hcs
    obtain ⟨rfl, rfl, rfl⟩ := hcs
    exact ⟨[], rfl, .inl rfl⟩
  · simp [Value.cells] at hcs
    obtain ⟨rfl, rfl, rfl⟩ := hcs
    simp only [if_true] at hmm
    subst hmm
    obtain ⟨F, hF⟩ := Go.Deep.choose_lt (α := α) (p := fun i b => W.cell? (x.add i) = some (encv b)) (fun i hi => by
      obtain ⟨h1, h2⟩ := hx i hi
      obtain ⟨b, hb⟩ := hread _ _ _ h2
      exact ⟨b, by rw [h1, hb]⟩)
    refine ⟨(List.range len).map F, by simp, ?_⟩
    by_cases h0 : len = 0
    · exact .inl (by simp [h0])
    · right
      have c0 := hF 0 (by omega)
      have hx0 : x.add 0 = x := by cases x; simp [Addr.add]
      rw [hx0] at c0
      have hp := plain_at c0
      refine ⟨x.block, x.off, by rw [← hp], fun i v hv => ?_⟩
      have hi : i < len := by
        have := (List.getElem?_eq_some_iff.1 hv).1
        simpa using this
      have hv2 : encv (F i) = v := by simpa [hi] using hv
      have := hF i (by omega)
      rw [hp, Addr.add_lit] at this
      rw [this, hv2]

theorem open_grid {H : Type} {enc : TypeId × Value → H} {W : World} {a : Option Addr} {len cap : Nat} {d : DataW H} {ps : List MemPlace}
    (h : DataW.Trod enc Try.prog W 0 (fun _ => true) true 33 (.slice a len cap) d ps) : ∃ G : List (List Int), len = G.length ∧ Grid W a G := by
  obtain ⟨fuel, hf⟩ := h
  rcases Go.Deep.open_int_rows Try.underlying33 Try.underlying31 Try.underlying3 cells31 cells3 hf with ⟨hcs, _⟩ | ⟨x, l, c, A, L, C, Z, hcs, _, hl, hm, _, hx⟩
  · simp [Value.cells] at hcs
    obtain ⟨rfl, rfl, rfl⟩ := hcs
    exact ⟨[], rfl, .inl rfl⟩
  · simp [Value.cells] at hcs
    obtain ⟨rfl, rfl, rfl⟩ := hcs
    refine ⟨(List.range len).map fun r => (Z r).take (L r), by simp, ?_⟩
    by_cases h0 : len = 0
    · exact .inl (by simp [h0])
    · right
      have c0 := (hx 0 (by omega)).1
      have hx0 : x.add 0 = x := by cases x; simp [Addr.add]
      rw [hx0] at c0
      have hp := plain_at c0
      refine ⟨x.block, x.off, A, C, by rw [← hp], fun i hi => ?_⟩
      have hi' : i < len := by simpa using hi
      obtain ⟨e, h1, h2, h3, h4, h5, h6⟩ := hx i (by omega)
      rw [hp, Addr.add_lit] at e
      have hrow : atL ((List.range len).map fun r => (Z r).take (L r)) i = (Z i).take (L i) := by
        unfold atL
        simp [List.getD, hi']
      rw [hrow]
      have hlen : ((Z i).take (L i)).length = L i := by rw [List.length_take]; omega
      rw [hlen]
      refine ⟨e, ?_⟩
      by_cases hL : L i = 0
      · exact .inl (by rw [hL]; rfl)
      cases hA : A i with
      | none =>
        have hC := h5 hA
        omega
      | some a' =>
        have hcell := (h6 a' hA).2
        have k0 := hcell 0 (by omega)
        have hx1 : a'.add 0 = a' := by cases a'; simp [Addr.add]
        rw [hx1] at k0
        have hp2 := plain_at k0
        refine .inr ⟨a'.block, a'.off, by rw [← hp2], fun j v hv => ?_⟩
        have hj : j < L i := by
          have := (List.getElem?_eq_some_iff.1 hv).1
          rw [List.length_map, hlen] at this
          exact this
        have := hcell j (by omega)
        rw [hp2, Addr.add_lit] at this
        rw [this]
        rw [List.getElem?_map, List.getElem?_take_of_lt hj] at hv
        have hj2 : j < (Z i).length := by omega
        rw [List.getElem?_eq_getElem hj2] at hv
        simp only [Option.map_some, Option.some.injEq] at hv
        rw [← hv]
        simp [List.getD, hj2, encI]
end Go.Proofs.Qxb6619273a
