import Derived.Test.Qxb6619252aLaw0
import Derived.ProofKit
import Derived.OpenShut
import Derived.ChangeOld
import Derived.Deep.Slices
import Derived.Laws.Cover2
namespace Go.Proofs.Qxb6619252a
open Go.ChangeShapes Go.WideShapes Go.ChangeAt Go.RowKit

theorem own : ownKnob Try.prog.godebug = none := by kernel_rfl
theorem laidOut : laidOutB Try.prog = true := by kernel_rfl
theorem cells24 : Try.prog.cellsOf 24 = 1 := by kernel_rfl

/-- Cells behind an address are behind a plain one. -/
theorem plain_at {w : World} {x : Addr} {v : Value} (h : w.cell? x = some v) : x = ⟨x.block, x.off, none⟩ := by
  obtain ⟨b, o, s⟩ := x
  have : s = none := World.cell?_spot h
  subst this
  rfl

/-- A cell that reads as a float64 is one. -/
theorem trod_float {H : Type} {enc : TypeId × Value → H} {W : World} {n : Nat} {v : Value} {x : DataW H × List MemPlace}
    (h : DataW.trod enc Try.prog W 0 (fun _ => true) true n 24 [v] = some x) : ∃ b, v = .float .f64 b := by
  cases n with
  | zero => simp [DataW.trod] at h
  | succ m =>
    simp only [DataW.trod, Try.underlying24] at h
    cases v <;> simp at h
    rename_i k b
    obtain ⟨h1, _⟩ := h
    exact ⟨b, by rw [h1.1]⟩

theorem open_figs {H : Type} {enc : TypeId × Value → H} {W : World} {a : Option Addr} {len cap : Nat} {d : DataW H} {ps : List MemPlace}
    (h : DataW.Trod enc Try.prog W 0 (fun _ => true) true 22 (.slice a len cap) d ps) : ∃ zs, IsFigs W a zs ∧ zs.length = len ∧ (a = none → zs = []) := by
  obtain ⟨fuel, hf⟩ := h
  rcases Go.Deep.open_slice1 Try.underlying22 cells24 hf with ⟨hcs, _⟩ | ⟨x, l, c, m, n, V, D, Pl, hcs, _, hl, hm, hmm, _, hx⟩
  · simp [Value.cells] at hcs
    obtain ⟨rfl, rfl, rfl⟩ := hcs
    exact ⟨[], .inl rfl, rfl, fun _ => rfl⟩
  · simp [Value.cells] at hcs
    obtain ⟨rfl, rfl, rfl⟩ := hcs
    simp only [if_true] at hmm
    subst hmm
    obtain ⟨F, hF⟩ := Go.Deep.choose_lt (α := Nat) (p := fun i b => W.cell? (x.add i) = some (.float .f64 b)) (fun i hi => by
      obtain ⟨h1, h2⟩ := hx i hi
      obtain ⟨b, hb⟩ := trod_float h2
      exact ⟨b, by rw [h1, hb]⟩)
    refine ⟨(List.range len).map F, ?_, by simp, fun e => by cases e⟩
    by_cases h0 : len = 0
    · exact .inl (by simp [h0])
    · right
      have c0 := hF 0 (by omega)
      have hx0 : x.add 0 = x := by cases x; simp [Addr.add]
      rw [hx0] at c0
      have hp := plain_at c0
      refine ⟨x.block, x.off, by rw [← hp], fun i hi => ?_⟩
      have hi' : i < len := by simpa using hi
      have := hF i (by omega)
      rw [hp, Addr.add_lit] at this
      rw [this]
      unfold fig
      simp [List.getD, hi']
end Go.Proofs.Qxb6619252a
