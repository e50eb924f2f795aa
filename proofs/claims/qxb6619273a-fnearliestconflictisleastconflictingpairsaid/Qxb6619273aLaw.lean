import Derived.Test.Qxb6619273aTail9
namespace Go.Proofs.Qxb6619273a
open Go.RowKit Go.Maps Go.ChangeShapes Go.MapKept

set_option maxHeartbeats 20000000 in
set_option maxRecDepth 100000 in
theorem law_any (p0 p1 p2 p3 p4 p5 : Option Addr) (n0 n1 n2 n3 n4 n5 c0 c1 c2 c3 c4 c5 : Nat) (u v : Int) (NU : List Int) (SS : List ByteArray) (N I : List Int) (W : List Bool) (G : List (List Int)) (w : World)
    (h0 : n0 = NU.length) (h1 : n1 = SS.length) (h2 : n2 = N.length) (h3 : n3 = I.length) (h4 : n4 = W.length) (h5 : n5 = G.length)
    (R0 : Row w p0 (NU.map encU)) (R1 : Row w p1 (SS.map encS)) (R2 : Row w p2 (N.map encI)) (R3 : Row w p3 (I.map encI)) (R4 : Row w p4 (W.map encB)) (R5 : Grid w p5 G) :
    Calls Try.prog 5 #[.slice p0 n0 c0, .slice p1 n1 c1, .slice p2 n2 c2, .slice p3 n3 c3, .slice p4 n4 c4, .slice p5 n5 c5, .int .i64 u, .int .i64 v] w fun e w' => e = .returned (.bool true) ∧ Below w.heap.size w w' := by
  obtain ⟨i38, hi38, hz38, hs38, hb38⟩ := info_parts info38
  have HZB := hide (fun w' (e1 : Row w' p1 (SS.map encS)) (e5 : Grid w' p5 G) => zzBytes_any p0 p1 p2 p3 p4 p5 n0 n1 n2 n3 n4 n5 c0 c1 c2 c3 c4 c5 u v SS G w' h1 h5 e1 e5)
  have H0 := hide h0
  have H1 := hide h1
  have H2 := hide h2
  have H3 := hide h3
  have H4 := hide h4
  have H5 := hide h5
  clear h0 h1 h2 h3 h4 h5
  go_enter Try.func5, Try.ntmps5
  go_wp2_with fail
  refine (HZB.out w R1 R5).mono ?_
  rintro e w' ⟨⟨b, rfl⟩, hw⟩
  obtain rfl := hw.symm
  clear hw HZB
  cases b
  · go_wp2
    go_ret
    exact ⟨rfl, Below.refl _ _⟩
  by_cases hl0 : n0 ≤ 4096
  case neg =>
    have hg0 : (4096 : Int) < (n0 : Int) := by omega
    go_wp2_with fail
    go_ret
    exact ⟨rfl, Below.refl _ _⟩
  have hg0 : (n0 : Int) ≤ 4096 := by omega
  by_cases hl1 : n1 ≤ 4096
  case neg =>
    have hg1 : (4096 : Int) < (n1 : Int) := by omega
    go_wp2_with fail
    go_ret
    exact ⟨rfl, Below.refl _ _⟩
  have hg1 : (n1 : Int) ≤ 4096 := by omega
  by_cases hl2 : n2 ≤ 4096
  case neg =>
    have hg2 : (4096 : Int) < (n2 : Int) := by omega
    go_wp2_with fail
    go_ret
    exact ⟨rfl, Below.refl _ _⟩
  have hg2 : (n2 : Int) ≤ 4096 := by omega
  by_cases hl3 : n3 ≤ 4096
  case neg =>
    have hg3 : (4096 : Int) < (n3 : Int) := by omega
    go_wp2_with fail
    go_ret
    exact ⟨rfl, Below.refl _ _⟩
  have hg3 : (n3 : Int) ≤ 4096 := by omega
  by_cases hl4 : n4 ≤ 4096
  case neg =>
    have hg4 : (4096 : Int) < (n4 : Int) := by omega
    go_wp2_with fail
    go_ret
    exact ⟨rfl, Below.refl _ _⟩
  have hg4 : (n4 : Int) ≤ 4096 := by omega
  by_cases hl5 : n5 ≤ 4096
  case neg =>
    have hg5 : (4096 : Int) < (n5 : Int) := by omega
    go_wp2_with fail
    go_ret
    exact ⟨rfl, Below.refl _ _⟩
  have hg5 : (n5 : Int) ≤ 4096 := by omega
  go_upto_if 69 with fail
  go_cut [0] (fun s wx => (∃ p c, s = .slice p n0 c ∧ Hid (Row wx p (NU.map encU))) ∧ Hid (Below w.heap.size w wx))
  case first =>
    have HR := hide R0
    clear R0
    cases p0 with
    | none =>
      go_wp2_with fail
      go_meet
      exact ⟨⟨none, _, rfl, HR.out⟩, Below.refl _ _⟩
    | some x =>
      have HSRC := hide (row_src HR.out)
      go_wp2_with (first
        | (at_make; refine wpList_make_full _ rfl _ _ 29 rfl w.heap.size 38 i38 (.int .u64 0) 1 Try.underlying29 hi38 hz38 hs38 .i64 .i64 _ _ n0 rfl rfl rfl rfl (by rw [hb38]; omega) (by unfold maxLen; omega) (Nat.le_refl _) ?_; intro w1 hown hgrow; have hB1 : Below w.heap.size w w1 := (Below.refl _ _).grown hgrow (Nat.le_refl _) (fun k hk => by cases hk); obtain ⟨cur, hcur, hcl⟩ := own_block hown; have HCUR := hide hcur; have HCL := hide hcl; have HB1 := hide hB1; clear hown hgrow hcur hcl hB1)
        | (with_reducible refine at_copy (.tmp 73) (.tmp 74) 29 29 rfl ?_; refine wpList_copy_splice rfl (.tmp 73) (.tmp 74) 29 29 rfl 38 Try.underlying29 Try.size38 (some ⟨w.heap.size, 0, none⟩) (some x) n0 n0 n0 c0 rfl rfl w.heap.size 0 cur 38 HCUR.out (NU.map encU) (by rw [List.length_map, ← H0.out]; exact (Nat.min_self n0).symm) (fun _ => ⟨rfl, x, rfl, fun j v hv => keepsB HB1.out _ _ (HSRC.out j v hv)⟩) (by rw [List.length_map, HCL.out, ← H0.out]; omega) (one_encU NU) w.heap.size w HB1.out (Nat.le_refl _) ?_; intro w2 HG2 hB2; have HRN := hide (copied_row HG2.out); have HB2 := hide hB2; clear hB2 HG2))
      go_meet
      exact ⟨⟨some ⟨w.heap.size, 0, none⟩, n0, rfl, HRN⟩, HB2⟩
  case rest =>
    obtain ⟨⟨q0, d0, rfl, HQ0⟩, HB0⟩ := hcut
    rename World => wA
    refine (‹∀ (a : Act) (w : World), Code.wp Try.prog _ _ a w → _› _ _ ?_)
    refine tail9_any q0 p1 p2 p3 p4 p5 n0 n1 n2 n3 n4 n5 d0 c1 c2 c3 c4 c5 u v NU SS N I W G w wA _ _ _ _ _ _ _ _ _ _ _ _ _ _ _ _ _ _ _ _ _ _ _ _ _ _ _ _ _ _ _ _ _ _ _ _ _ _ _ _ _ _ _ _ _ _ _ _ _ _ _ _ _ _ _ _ _ _ _ _ _ _ _ _ _ _ _ _ _ _ _ _ _ _ _ _ _ _ _ _ _ _ _ _ _ _ _ _ _ _ _ _ _ _ _ _ _ _ _ _ _ _ _ _ _ _ _ _ _ _ _ _ _ _ _ _ _ _ _ _ _ _ _ _ _ _ _ _ _ _ _ _ _ _ _ _ _ _ _ _ _ _ _ _ _ _ _ _ _ _ _ _ _ _ _ _ _ _ _ _ _ _ _ _ _ _ _ _ _ _ _ _ _ _ _ _ _ _ _ _ _ _ _ _ _ _ _ _ _ _ _ _ _ _ _ _ _ _ _ _ _ _ _ _ _ _ _ _ _ _ _ _ _ _ _ _ _ _ _ _ H0.out H1.out H2.out H3.out H4.out H5.out hl0 hl1 hl2 hl3 hl4 hl5 HQ0.out (R1.keep HB0.out) (R2.keep HB0.out) (R3.keep HB0.out) (R4.keep HB0.out) (R5.keep HB0.out) HB0.out
end Go.Proofs.Qxb6619273a
