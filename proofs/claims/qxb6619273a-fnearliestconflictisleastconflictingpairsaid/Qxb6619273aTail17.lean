import Derived.Test.Qxb6619273aTail21
namespace Go.Proofs.Qxb6619273a
open Go.RowKit Go.Maps Go.ChangeShapes Go.MapKept

noncomputable def tail17 : Code := ((Try.f5.body.bind (suffix 17)).getD .skip)

set_option maxHeartbeats 20000000 in
set_option maxRecDepth 1000000 in
theorem tail17_any (p0 p1 p2 p3 p4 p5 : Option Addr) (n0 n1 n2 n3 n4 n5 c0 c1 c2 c3 c4 c5 : Nat) (u v : Int) (NU : List Int) (SS : List ByteArray) (N I : List Int) (W : List Bool) (G : List (List Int)) (w0 w : World)
    (x8 x9 x10 x11 x12 x13 x14 x15 x16 x17 x18 x19 x20 x21 x22 x23 x24 x25 x26 x27 x28 x29 x30 x31 x32 x33 x34 x35 x36 x37 x38 x39 x40 x41 x42 x43 x44 x45 x46 x47 x48 x49 x50 x51 x52 x53 x54 x55 x56 x57 x58 x59 x60 x61 x62 x63 x64 x65 x66 x67 x68 x69 x70 x71 x72 x73 x74 x75 x76 x77 x78 x79 x80 x81 x82 x83 x84 x85 x86 x87 x88 x89 x90 x91 x92 x93 x94 x95 x96 x97 x98 x99 x100 x101 x102 x103 x104 x105 x106 x107 x108 x109 x110 x111 x112 x113 x114 x115 x116 x117 x118 x119 x120 x121 x122 x123 x124 x125 x126 x127 x128 x129 x130 x131 x132 x133 x134 x135 x136 x137 x138 x139 x140 x141 x142 x143 x144 x145 x146 x147 x148 x149 x150 x151 x152 x153 x154 x155 x156 x157 x158 x159 x160 x161 x162 x163 x164 x165 x166 x167 x168 x169 x170 x171 x172 x173 x174 x175 x176 x177 x178 x179 x180 x181 x182 x183 x184 x185 x186 x187 x188 x189 x190 x191 x192 x193 x194 x195 x196 x197 x198 x199 x200 x201 x202 x203 x204 x205 x206 x207 x208 x209 x210 x211 x212 x213 x214 x215 x216 x217 x218 x219 x220 x221 x222 x223 x224 x225 x226 x227 : Value)
    (h0 : n0 = NU.length) (h1 : n1 = SS.length) (h2 : n2 = N.length) (h3 : n3 = I.length) (h4 : n4 = W.length) (h5 : n5 = G.length) (l0 : n0 ≤ 4096) (l1 : n1 ≤ 4096) (l2 : n2 ≤ 4096) (l3 : n3 ≤ 4096) (l4 : n4 ≤ 4096) (l5 : n5 ≤ 4096)
    (R0 : Row w p0 (NU.map encU)) (R1 : Row w p1 (SS.map encS)) (R2 : Row w p2 (N.map encI)) (R3 : Row w p3 (I.map encI)) (R4 : Row w p4 (W.map encB)) (R5 : Grid w p5 G) (hB : Below w0.heap.size w0 w) :
    Code.wp Try.prog tail17 (bodyPost Try.prog Try.f5 fun e w' => e = .returned (.bool true) ∧ Below w0.heap.size w0 w') ⟨#[.slice p0 n0 c0, .slice p1 n1 c1, .slice p2 n2 c2, .slice p3 n3 c3, .slice p4 n4 c4, .slice p5 n5 c5, .int .i64 u, .int .i64 v, x8, x9, x10, x11, x12, x13, x14, x15, x16, x17, x18, x19, x20, x21, x22, x23, x24, x25, x26, x27, x28, x29, x30, x31, x32, x33, x34, x35, x36, x37, x38, x39, x40, x41, x42, x43, x44, x45, x46, x47, x48, x49, x50, x51, x52, x53, x54, x55, x56, x57, x58, x59, x60, x61, x62, x63, x64, x65, x66, x67, x68, x69, x70, x71, x72, x73, x74, x75, x76, x77, x78, x79, x80, x81, x82, x83, x84, x85, x86, x87, x88, x89, x90, x91, x92, x93, x94, x95, x96, x97, x98, x99, x100, x101, x102, x103, x104, x105, x106, x107, x108, x109, x110, x111, x112, x113, x114, x115, x116, x117, x118, x119, x120, x121, x122, x123, x124, x125, x126, x127, x128, x129, x130, x131, x132, x133, x134, x135, x136, x137, x138, x139, x140, x141, x142, x143, x144, x145, x146, x147, x148, x149, x150, x151, x152, x153, x154, x155, x156, x157, x158, x159, x160, x161, x162, x163, x164, x165, x166, x167, x168, x169, x170, x171, x172, x173, x174, x175, x176, x177, x178, x179, x180, x181, x182, x183, x184, x185, x186, x187, x188, x189, x190, x191, x192, x193, x194, x195, x196, x197, x198, x199, x200, x201, x202, x203, x204, x205, x206, x207, x208, x209, x210, x211, x212, x213, x214, x215, x216, x217, x218, x219, x220, x221, x222, x223, x224, x225, x226, x227], []⟩ w := by
  obtain ⟨i3, hi3, hz3, hs3, hb3⟩ := info_parts info3
  have H0 := hide h0
  have H1 := hide h1
  have H2 := hide h2
  have H3 := hide h3
  have H4 := hide h4
  have H5 := hide h5
  have Q0 := hide R0
  have Q1 := hide R1
  have Q2 := hide R2
  have Q4 := hide R4
  have Q5 := hide R5
  have HB := hide hB
  clear h0 h1 h2 h3 h4 h5 R0 R1 R2 R4 R5 hB
  conv => arg 2; whnf
  go_upto_if 96 with fail
  go_cut [3] (fun s wx => (∃ p c, s = .slice p n3 c ∧ Hid (Row wx p (I.map encI))) ∧ Hid (Below w.heap.size w wx))
  case first =>
    have HR := hide R3
    clear R3
    cases p3 with
    | none =>
      go_wp2_with fail
      go_meet
      exact ⟨⟨none, _, rfl, HR.out⟩, Below.refl _ _⟩
    | some x =>
      have HSRC := hide (row_src HR.out)
      go_wp2_with (first
        | (at_make; refine wpList_make_full _ rfl _ _ 31 rfl w.heap.size 3 i3 (.int .i64 0) 1 Try.underlying31 hi3 hz3 hs3 .i64 .i64 _ _ n3 rfl rfl rfl rfl (by rw [hb3]; omega) (by unfold maxLen; omega) (Nat.le_refl _) ?_; intro w1 hown hgrow; have hB1 : Below w.heap.size w w1 := (Below.refl _ _).grown hgrow (Nat.le_refl _) (fun k hk => by cases hk); obtain ⟨cur, hcur, hcl⟩ := own_block hown; have HCUR := hide hcur; have HCL := hide hcl; have HB1 := hide hB1; clear hown hgrow hcur hcl hB1)
        | (with_reducible refine at_copy (.tmp 100) (.tmp 101) 31 31 rfl ?_; refine wpList_copy_splice rfl (.tmp 100) (.tmp 101) 31 31 rfl 3 Try.underlying31 Try.size3 (some ⟨w.heap.size, 0, none⟩) (some x) n3 n3 n3 c3 rfl rfl w.heap.size 0 cur 3 HCUR.out (I.map encI) (by rw [List.length_map, ← H3.out]; exact (Nat.min_self n3).symm) (fun _ => ⟨rfl, x, rfl, fun j v hv => keepsB HB1.out _ _ (HSRC.out j v hv)⟩) (by rw [List.length_map, HCL.out, ← H3.out]; omega) (one_encI I) w.heap.size w HB1.out (Nat.le_refl _) ?_; intro w2 HG2 hB2; have HRN := hide (copied_row HG2.out); have HB2 := hide hB2; clear hB2 HG2))
      go_meet
      exact ⟨⟨some ⟨w.heap.size, 0, none⟩, n3, rfl, HRN⟩, HB2⟩
  case rest =>
    obtain ⟨⟨q3, d3, rfl, HQ3⟩, HB3⟩ := hcut
    rename World => wA
    refine (‹∀ (a : Act) (w : World), Code.wp Try.prog _ _ a w → _› _ _ ?_)
    refine tail21_any p0 p1 p2 q3 p4 p5 n0 n1 n2 n3 n4 n5 c0 c1 c2 d3 c4 c5 u v NU SS N I W G w0 wA _ _ _ _ _ _ _ _ _ _ _ _ _ _ _ _ _ _ _ _ _ _ _ _ _ _ _ _ _ _ _ _ _ _ _ _ _ _ _ _ _ _ _ _ _ _ _ _ _ _ _ _ _ _ _ _ _ _ _ _ _ _ _ _ _ _ _ _ _ _ _ _ _ _ _ _ _ _ _ _ _ _ _ _ _ _ _ _ _ _ _ _ _ _ _ _ _ _ _ _ _ _ _ _ _ _ _ _ _ _ _ _ _ _ _ _ _ _ _ _ _ _ _ _ _ _ _ _ _ _ _ _ _ _ _ _ _ _ _ _ _ _ _ _ _ _ _ _ _ _ _ _ _ _ _ _ _ _ _ _ _ _ _ _ _ _ _ _ _ _ _ _ _ _ _ _ _ _ _ _ _ _ _ _ _ _ _ _ _ _ _ _ _ _ _ _ _ _ _ _ _ _ _ _ _ _ _ _ _ _ _ _ _ _ _ _ _ _ _ _ H0.out H1.out H2.out H3.out H4.out H5.out l0 l1 l2 l3 l4 l5 (Q0.out.keep HB3.out) (Q1.out.keep HB3.out) (Q2.out.keep HB3.out) HQ3.out (Q4.out.keep HB3.out) (Q5.out.keep HB3.out) (HB.out.trans (HB3.out.mono HB.out.size))
end Go.Proofs.Qxb6619273a
