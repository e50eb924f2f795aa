import Derived.Test.Qxb6618387aLeaves
import Derived.ProofKit
import Derived.OpenShut
import Derived.ShutString
import Derived.ChangeOld
import Derived.Deep.Matrix
namespace Go.Proofs.Qxb6618387a
open Go.ChangeShapes Go.WideShapes Go.ChangeAt Go.RowKit

theorem own : ownKnob Try.prog.godebug = none := by kernel_rfl
theorem laidOut : laidOutB Try.prog = true := by kernel_rfl
theorem cells27 : Try.prog.cellsOf 27 = 1 := by kernel_rfl
theorem cells5 : Try.prog.cellsOf 5 = 1 := by kernel_rfl

theorem wf_u8 {n : Int} (h : (Lit.int .u8 n).wf = true) : 0 ≤ n ∧ n < 256 := by
  have := bounds_u8 h
  omega

/-- Cells behind an address are behind a plain one. -/
theorem plain_at {w : World} {x : Addr} {v : Value} (h : w.cell? x = some v) : x = ⟨x.block, x.off, none⟩ := by
  obtain ⟨b, o, s⟩ := x
  have : s = none := World.cell?_spot h
  subst this
  rfl

theorem bytes_of_cells {w : World} {x : Addr} {L C : Nat} {zs : List Int} (hl : L ≤ C) (hm : C ≤ maxLen) (hz : zs.length = C) (hw : ∀ n ∈ zs, (Lit.int .u8 n).wf = true)
    (hc : ∀ i, i < C → w.cell? (x.add i) = some (.int .u8 (zs.getD i 0))) : IsBytes w (some x) L (zs.take L) := by
  refine ⟨by simp; omega, by omega, fun n hn => wf_u8 (hw n (List.mem_of_mem_take hn)), ?_⟩
  by_cases h0 : L = 0
  · exact .inl h0
  · right
    have c0 := hc 0 (by omega)
    have hx : x.add 0 = x := by cases x; simp [Addr.add]
    rw [hx] at c0
    have hp := plain_at c0
    refine ⟨x.block, x.off, by rw [← hp], fun i hi => ?_⟩
    have := hc i (by omega)
    rw [hp, Addr.add_lit] at this
    rw [this]
    simp [List.getD, hi]

theorem open_bytes {H : Type} {enc : TypeId × Value → H} {W : World} {a : Option Addr} {len cap : Nat} {d : DataW H} {ps : List MemPlace}
    (h : DataW.Trod enc Try.prog W 0 (fun _ => true) true 27 (.slice a len cap) d ps) : ∃ xs, IsBytes W a len xs := by
  obtain ⟨fuel, hf⟩ := h
  rcases open_ints Try.underlying27 Try.underlying5 cells5 hf with ⟨hcs, _⟩ | ⟨x, l, c, zs, hcs, _, hl, hm, hz, _, hcell, hwz⟩
  · simp [Value.cells] at hcs
    obtain ⟨rfl, rfl, rfl⟩ := hcs
    exact ⟨[], rfl, Nat.zero_le _, by simp, .inl rfl⟩
  · simp [Value.cells] at hcs
    obtain ⟨rfl, rfl, rfl⟩ := hcs
    simp only [if_true] at hz
    exact ⟨_, bytes_of_cells hl hm hz hwz (fun i hi => hcell i (by omega))⟩

theorem open_files {H : Type} {enc : TypeId × Value → H} {W : World} {a : Option Addr} {len cap : Nat} {d : DataW H} {ps : List MemPlace}
    (h : DataW.Trod enc Try.prog W 0 (fun _ => true) true 22 (.slice a len cap) d ps) : ∃ fs, IsFiles W a len fs ∧ len ≤ cap := by
  obtain ⟨fuel, hf⟩ := h
  rcases Go.Deep.open_int_rows Try.underlying22 Try.underlying27 Try.underlying5 cells27 cells5 hf with ⟨hcs, _⟩ | ⟨x, l, c, A, L, C, Z, hcs, _, hl, hm, _, hx⟩
  · simp [Value.cells] at hcs
    obtain ⟨rfl, rfl, rfl⟩ := hcs
    exact ⟨[], ⟨rfl, .inl rfl⟩, Nat.le_refl _⟩
  · simp [Value.cells] at hcs
    obtain ⟨rfl, rfl, rfl⟩ := hcs
    refine ⟨(List.range len).map fun r => (Z r).take (L r), ⟨by simp, ?_⟩, hl⟩
    by_cases h0 : len = 0
    · exact .inl h0
    · right
      have c0 := (hx 0 (by omega)).1
      have hx0 : x.add 0 = x := by cases x; simp [Addr.add]
      rw [hx0] at c0
      have hp := plain_at c0
      refine ⟨x.block, x.off, A, L, C, by rw [← hp], fun i hi => ?_⟩
      obtain ⟨e, h1, h2, h3, h4, h5, h6⟩ := hx i (by omega)
      rw [hp, Addr.add_lit] at e
      refine ⟨e, ?_⟩
      have hfile : fileAt ((List.range len).map fun r => (Z r).take (L r)) i = (Z i).take (L i) := by
        unfold fileAt
        simp [List.getD, hi]
      rw [hfile]
      cases hA : A i with
      | none =>
        have hC := h5 hA
        have hL : L i = 0 := by omega
        rw [hL]
        exact ⟨by simp, Nat.zero_le _, by simp, .inl rfl⟩
      | some a' => exact bytes_of_cells h1 h2 h3 h4 (h6 a' hA).2
end Go.Proofs.Qxb6618387a
