import Derived.Test.Qxb6619273aZz
import Derived.Test.Qxb6619273aPigeon
import Derived.Test.Qxb6619273aEcOp
import Derived.Deep.DeepCutAuto
namespace Go.Proofs.Qxb6619273a
open Go.RowKit Go.Maps Go.ChangeShapes Go.MapKept

theorem at_copy {P : Program} {w : World} {ops : Array Oper} {rest : List Oper} {o : Oper} {a : Act} {Q : Exit → Act → World → Prop} (d s : Operand) (dT sT : TypeId)
    (_ : o.op = .call { callee := .builtin .copy, args := #[d, s], argTypes := #[dT, sT] }) (h : wpList P ops Q (o :: rest) a w) : wpList P ops Q (o :: rest) a w := h

theorem Try.size38 : (Try.prog.info? 38).map (·.size) = some 1 := by kernel_rfl
theorem Try.size9 : (Try.prog.info? 9).map (·.size) = some 1 := by kernel_rfl
theorem Try.size3 : (Try.prog.info? 3).map (·.size) = some 1 := by kernel_rfl
theorem Try.size4 : (Try.prog.info? 4).map (·.size) = some 1 := by kernel_rfl
theorem info38 : (Try.prog.info? 38).map (fun i => (i.zero, i.size, i.bytes)) = some (some (.int .u64 0), 1, 8) := by kernel_rfl
theorem info9 : (Try.prog.info? 9).map (fun i => (i.zero, i.size, i.bytes)) = some (some (.string { data := #[] }), 1, 16) := by kernel_rfl
theorem info4 : (Try.prog.info? 4).map (fun i => (i.zero, i.size, i.bytes)) = some (some (.bool false), 1, 1) := by kernel_rfl

theorem one_encU (l : List Int) : ∀ v ∈ l.map encU, v.oneCell' = true := by
  intro u hu; simp at hu; obtain ⟨x, _, rfl⟩ := hu; rfl
theorem one_encI (l : List Int) : ∀ v ∈ l.map encI, v.oneCell' = true := by
  intro u hu; simp at hu; obtain ⟨x, _, rfl⟩ := hu; rfl
theorem one_encS (l : List ByteArray) : ∀ v ∈ l.map encS, v.oneCell' = true := by
  intro u hu; simp at hu; obtain ⟨x, _, rfl⟩ := hu; rfl
theorem one_encB (l : List Bool) : ∀ v ∈ l.map encB, v.oneCell' = true := by
  intro u hu; simp at hu
  rcases hu with ⟨_, rfl⟩ | ⟨_, rfl⟩ <;> rfl

theorem row_src {w : World} {x : Addr} {vs : List Value} (h : Row w (some x) vs) : ∀ j v, vs[j]? = some v → w.cell? (x.add j) = some v := by
  intro j v hv
  rcases h with rfl | ⟨b, o, e, h⟩
  · simp at hv
  · cases e
    have hadd : (⟨b, o, none⟩ : Addr).add j = ⟨b, o + j, none⟩ := by unfold Addr.add; split <;> simp_all
    rw [hadd]
    exact h j v hv

theorem own_block {w : World} {base g n e : Nat} {xs : List Value} (h : w.ownsRow base e 1 (.slice (some ⟨g, 0, none⟩) n n) n xs) : ∃ cur : List Value, w.heap[g]? = some (.cells cur.toArray e (0, 0)) ∧ cur.length = n := by
  rcases h.2 with ⟨e, _⟩ | ⟨g', cap, cur, e, _, hg, _, _, hs, _⟩
  · cases e
  · cases e
    exact ⟨cur.toList, by simpa using hg, by simpa using hs⟩

theorem copied_row {w : World} {g : Nat} {t : TypeId} {cur cs : List Value} (h : w.heap[g]? = some (.cells (splice cur 0 cs).toArray t)) : Row w (some ⟨g, 0, none⟩) cs := by
  refine .inr ⟨g, 0, rfl, fun j v hv => ?_⟩
  rw [Nat.zero_add]
  refine cell_whole h ?_
  have hj := (List.getElem?_eq_some_iff.1 hv).1
  simp only [List.getElem?_toArray]
  unfold splice
  rw [List.take_zero, List.nil_append, List.getElem?_append_left hj]
  exact hv

/-- ZZEarliestConflict over the arguments as they lie. -/
theorem zz_any {w : World} {p0 p1 p2 p3 p4 p5 : Option Addr} {c0 c1 c2 c3 c4 c5 n m : Nat} {NU : List Int} {SS : List ByteArray} {N I : List Int} {W : List Bool} {G : List (List Int)} (hm : m = G.length)
    (r0 : Row w p0 (NU.map encU)) (r1 : Row w p1 (SS.map encS)) (r2 : Row w p2 (N.map encI)) (r3 : Row w p3 (I.map encI)) (r4 : Row w p4 (W.map encB)) (r5 : Grid w p5 G)
    (h2 : n = N.length) (h3 : n = I.length) (h4 : n = W.length) (hn : n ≤ 4096) (hSS : SS.length ≤ 4096) (hsh : Shape N I G n NU.length SS.length) (hG : G.length = NU.length)
    {uu vv : Nat} (hu : uu < NU.length) (hv : vv < NU.length) {p q : Nat} (hcf : Least N I W uu vv n p q) :
    Calls Try.prog 14 #[.slice p0 NU.length c0, .slice p1 SS.length c1, .slice p2 n c2, .slice p3 n c3, .slice p4 n c4, .slice p5 m c5, .int .i64 (uu : Int), .int .i64 (vv : Int)] w fun e w' => RetConf e NU SS N I W uu vv n ∧ Below w.heap.size w w' := by
  have hq := hcf.1.2.1
  have hpq := hcf.1.1
  obtain ⟨b2, o2, rfl, k2⟩ := Row.at (d := 0) r2 h2 (j := 0) (by omega)
  obtain ⟨b3, o3, rfl, k3⟩ := Row.at (d := 0) r3 h3 (j := 0) (by omega)
  obtain ⟨b4, o4, rfl, k4⟩ := Row.at (d := false) r4 h4 (j := 0) (by omega)
  subst hm
  have lu := hsh.len hu
  have lv := hsh.len hv
  exact zz_raw b2 o2 c2 b3 o3 c3 b4 o4 c4 n p0 p1 p5 c0 c1 c5 uu vv NU SS N I W G w hn r0 r1 r5 (fun V gb hGr => ec_any hGr (by omega) (by omega) (hsh.node hG hu) (hsh.node hG hv) (by omega) (by omega) hsh.pos hSS hn ⟨p, q, hcf.1⟩) k2 k3 k4
end Go.Proofs.Qxb6619273a
