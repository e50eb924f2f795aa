import Derived.Test.Qxb6619273aLaw0
import Derived.WalkLawsBesides
namespace Go.Proofs.Qxb6619273a
open Go.RowKit Go.Maps Go.ChangeShapes Go.MapKept

theorem opVal_eq (NU : List Int) (SS : List ByteArray) (N I : List Int) (W : List Bool) (p : Nat) : opVal NU SS N I W p = .agg #[.int .u8 (if atB W p then 119 else 114), .int .u64 (atI NU (atI N p).toNat), .string (atS SS (atI I p).toNat)] := rfl

/-- The number of the first region of a statement. -/
def firstReg : Code → Option Nat
  | .region id _ _ => some id
  | .seq a _ => firstReg a
  | _ => none
/-- What follows from region k on. -/
def suffix (k : Nat) : Code → Option Code
  | .seq a b => if firstReg (.seq a b) == some k then some (.seq a b) else suffix k b
  | _ => none
noncomputable def tail25 : Code := ((Try.f5.body.bind (suffix 25)).getD .skip)
noncomputable def tail21 : Code := ((Try.f5.body.bind (suffix 21)).getD .skip)

set_option maxHeartbeats 20000000 in
set_option maxRecDepth 1000000 in
theorem tail_any (p0 p1 p2 p3 p4 p5 : Option Addr) (n0 n1 n2 n3 n4 n5 c0 c1 c2 c3 c4 c5 : Nat) (u v : Int) (NU : List Int) (SS : List ByteArray) (N I : List Int) (W : List Bool) (G : List (List Int)) (w0 w : World)
    (x8 x9 x10 x11 x12 x13 x14 x15 x16 x17 x18 x19 x20 x21 x22 x23 x24 x25 x26 x27 x28 x29 x30 x31 x32 x33 x34 x35 x36 x37 x38 x39 x40 x41 x42 x43 x44 x45 x46 x47 x48 x49 x50 x51 x52 x53 x54 x55 x56 x57 x58 x59 x60 x61 x62 x63 x64 x65 x66 x67 x68 x69 x70 x71 x72 x73 x74 x75 x76 x77 x78 x79 x80 x81 x82 x83 x84 x85 x86 x87 x88 x89 x90 x91 x92 x93 x94 x95 x96 x97 x98 x99 x100 x101 x102 x103 x104 x105 x106 x107 x108 x109 x110 x111 x112 x113 x114 x115 x116 x117 x118 x119 x120 x121 x122 x123 x124 x125 x126 x127 x128 x129 x130 x131 x132 x133 x134 x135 x136 x137 x138 x139 x140 x141 x142 x143 x144 x145 x146 x147 x148 x149 x150 x151 x152 x153 x154 x155 x156 x157 x158 x159 x160 x161 x162 x163 x164 x165 x166 x167 x168 x169 x170 x171 x172 x173 x174 x175 x176 x177 x178 x179 x180 x181 x182 x183 x184 x185 x186 x187 x188 x189 x190 x191 x192 x193 x194 x195 x196 x197 x198 x199 x200 x201 x202 x203 x204 x205 x206 x207 x208 x209 x210 x211 x212 x213 x214 x215 x216 x217 x218 x219 x220 x221 x222 x223 x224 x225 x226 x227 : Value)
    (h0 : n0 = NU.length) (h1 : n1 = SS.length) (h2 : n2 = N.length) (h3 : n3 = I.length) (h4 : n4 = W.length) (h5 : n5 = G.length) (l0 : n0 ≤ 4096) (l1 : n1 ≤ 4096) (l2 : n2 ≤ 4096) (l3 : n3 ≤ 4096) (l4 : n4 ≤ 4096) (l5 : n5 ≤ 4096)
    (R0 : Row w p0 (NU.map encU)) (R1 : Row w p1 (SS.map encS)) (R2 : Row w p2 (N.map encI)) (R3 : Row w p3 (I.map encI)) (R4 : Row w p4 (W.map encB)) (R5 : Grid w p5 G) (hB : Below w0.heap.size w0 w) :
    Code.wp Try.prog tail25 (bodyPost Try.prog Try.f5 fun e w' => e = .returned (.bool true) ∧ Below w0.heap.size w0 w') ⟨#[.slice p0 n0 c0, .slice p1 n1 c1, .slice p2 n2 c2, .slice p3 n3 c3, .slice p4 n4 c4, .slice p5 n5 c5, .int .i64 u, .int .i64 v, x8, x9, x10, x11, x12, x13, x14, x15, x16, x17, x18, x19, x20, x21, x22, x23, x24, x25, x26, x27, x28, x29, x30, x31, x32, x33, x34, x35, x36, x37, x38, x39, x40, x41, x42, x43, x44, x45, x46, x47, x48, x49, x50, x51, x52, x53, x54, x55, x56, x57, x58, x59, x60, x61, x62, x63, x64, x65, x66, x67, x68, x69, x70, x71, x72, x73, x74, x75, x76, x77, x78, x79, x80, x81, x82, x83, x84, x85, x86, x87, x88, x89, x90, x91, x92, x93, x94, x95, x96, x97, x98, x99, x100, x101, x102, x103, x104, x105, x106, x107, x108, x109, x110, x111, x112, x113, x114, x115, x116, x117, x118, x119, x120, x121, x122, x123, x124, x125, x126, x127, x128, x129, x130, x131, x132, x133, x134, x135, x136, x137, x138, x139, x140, x141, x142, x143, x144, x145, x146, x147, x148, x149, x150, x151, x152, x153, x154, x155, x156, x157, x158, x159, x160, x161, x162, x163, x164, x165, x166, x167, x168, x169, x170, x171, x172, x173, x174, x175, x176, x177, x178, x179, x180, x181, x182, x183, x184, x185, x186, x187, x188, x189, x190, x191, x192, x193, x194, x195, x196, x197, x198, x199, x200, x201, x202, x203, x204, x205, x206, x207, x208, x209, x210, x211, x212, x213, x214, x215, x216, x217, x218, x219, x220, x221, x222, x223, x224, x225, x226, x227], []⟩ w := by
  have H0 := hide h0
  have H1 := hide h1
  have H2 := hide h2
  have H3 := hide h3
  have H4 := hide h4
  have H5 := hide h5
  have Q0 := hide R0
  have Q1 := hide R1
  have Q2 := hide R2
  have Q3 := hide R3
  have Q4 := hide R4
  have Q5 := hide R5
  have HB := hide hB
  clear h0 h1 h2 h3 h4 h5 R0 R1 R2 R3 R4 R5 hB
  conv => arg 2; whnf
  go_wp2_with fail
  go_loopw [22, 23] (fun z x wr => ∃ (k : Nat) (t : Int), k ≤ n1 ∧ x = .int .i64 k ∧ z = .int .i64 t ∧ 0 ≤ t ∧ t ≤ 1048576 ∧ wr = w) (fun _ x _ => n1 - (intOf x).toNat)
  case atStart =>
    refine ⟨0, _, Nat.zero_le _, rfl, rfl, ?_, ?_, rfl⟩ <;> omega
  case round =>
    obtain ⟨k, t, hk, rfl, rfl, ht0, ht1, hwr⟩ := hrel
    obtain rfl := hwr.symm
    clear hwr
    by_cases hlt : k < n1
    · obtain ⟨b, o, rfl, hc⟩ := Row.at (d := ByteArray.empty) Q1.out H1.out hlt
      have e1 := hc k hlt
      clear hc
      unfold encS at e1
      go_wp2_with fail
      any_goals
        go_ret
        exact ⟨rfl, HB.out⟩
      exact ⟨⟨k + 1, _, by omega, by go_num, rfl, by omega, by omega, trivial⟩, by simp [intOf]; omega⟩
    · go_wp2_with fail
      go_loopw [22, 24] (fun z x wr => ∃ (k : Nat) (t : Int), k ≤ n5 ∧ x = .int .i64 k ∧ z = .int .i64 t ∧ 0 ≤ t ∧ t ≤ 1048576 ∧ wr = w) (fun _ x _ => n5 - (intOf x).toNat)
      case atStart =>
        refine ⟨0, _, Nat.zero_le _, rfl, rfl, ?_, ?_, rfl⟩ <;> omega
      case round =>
        obtain ⟨k2, t2, hk2, rfl, rfl, hu0, hu1, hwr⟩ := hrel
        obtain rfl := hwr.symm
        clear hwr
        by_cases hlt2 : k2 < n5
        · rcases Q5.out with hg | ⟨b5, o5, A5, C5, rfl, hg⟩
          · rw [H5.out, hg] at hlt2
            simp at hlt2
          obtain ⟨e5, _⟩ := hg k2 (by rw [← H5.out]; exact hlt2)
          clear hg
          generalize (atL G k2).length = ln at e5
          go_wp2_with fail
          any_goals
            go_ret
            exact ⟨rfl, HB.out⟩
          exact ⟨⟨k2 + 1, _, by omega, by go_num, rfl, by omega, by omega, trivial⟩, by simp [intOf]; omega⟩
        · go_wp2_with fail
          refine (shape_any p0 p1 p2 p3 p4 p5 n0 n1 n2 n3 n4 n5 c0 c1 c2 c3 c4 c5 N I G u v w H2.out H3.out H5.out l2 l0 Q2.out Q3.out Q5.out).mono ?_
          rintro e w' ⟨⟨b, rfl, hb⟩, hw⟩
          obtain rfl := hw.symm
          clear hw
          cases b
          · go_wp2_with fail
            go_ret
            exact ⟨rfl, HB.out⟩
          obtain ⟨⟨e3, e4, e5⟩, ⟨hu0', hu1'⟩, ⟨hv0', hv1'⟩, hsh⟩ := hb rfl
          clear hb
          obtain ⟨uu, rfl⟩ := Int.eq_ofNat_of_zero_le hu0'
          obtain ⟨vv, rfl⟩ := Int.eq_ofNat_of_zero_le hv0'
          subst e3 e4 e5
          have HSH := hide hsh
          clear hsh hu0' hv0'
          go_wp2_with fail
          refine (first_any p2 p3 p4 n4 c2 c3 c4 N I W uu vv w H2.out H3.out H4.out l4 Q2.out Q3.out Q4.out).mono ?_
          rintro e w' ⟨hf, m, hw⟩
          obtain ⟨wD, hwD⟩ : ∃ wD, wD = w.drewN m := ⟨_, rfl⟩
          rw [← hwD] at hw
          obtain rfl := hw.symm
          have BD : Below w.heap.size w wD := by rw [hwD]; exact below_drewN (Below.refl _ _) m
          have HBD : Hid (Below w0.heap.size w0 wD) := HB.out.trans (BD.mono HB.out.size)
          replace Q0 := hide (Q0.out.keep BD)
          replace Q1 := hide (Q1.out.keep BD)
          replace Q2 := hide (Q2.out.keep BD)
          replace Q3 := hide (Q3.out.keep BD)
          replace Q4 := hide (Q4.out.keep BD)
          replace Q5 := hide (Q5.out.keep BD)
          clear hw hwD BD
          rcases hf with rfl | ⟨p, q, rfl, hleast⟩
          · go_wp2_with fail
            go_ret
            exact ⟨rfl, HBD.out⟩
          have E0 := H0.out
          have E1 := H1.out
          subst E0
          subst E1
          have HLE := hide hleast
          have hpn : p < n4 := by
            have h1 := hleast.1.1
            have h2 := hleast.1.2.1
            omega
          have hqn : q < n4 := hleast.1.2.1
          have HZZ := hide (zz_any (c0 := c0) (c1 := c1) (c2 := c2) (c3 := c3) (c4 := c4) (c5 := c5) H5.out Q0.out Q1.out Q2.out Q3.out Q4.out Q5.out H2.out H3.out H4.out l4 l1 HSH.out H5.out.symm (uu := uu) (vv := vv) (by omega) (by omega) hleast)
          have HPP := hide (HSH.out.pos p hpn)
          have HPQ := hide (HSH.out.pos q hqn)
          clear hleast
          go_wp2_with fail
          refine HZZ.out.mono ?_
          rintro e wb ⟨⟨p', q', hl', rfl⟩, hBb⟩
          obtain ⟨rfl, rfl⟩ := least_unique hl' HLE.out
          clear hl' HZZ
          have HO := opVal_eq NU SS N I W p'
          have HO2 := opVal_eq NU SS N I W q'
          obtain ⟨ky, hky⟩ : ∃ k : Int, k = (if atB W p' then 119 else 114) := ⟨_, rfl⟩
          obtain ⟨xy, hxy⟩ : ∃ k : Int, k = atI NU (atI N p').toNat := ⟨_, rfl⟩
          obtain ⟨sy, hsy⟩ : ∃ k : ByteArray, k = atS SS (atI I p').toNat := ⟨_, rfl⟩
          obtain ⟨kq, hkq⟩ : ∃ k : Int, k = (if atB W q' then 119 else 114) := ⟨_, rfl⟩
          obtain ⟨xq, hxq⟩ : ∃ k : Int, k = atI NU (atI N q').toNat := ⟨_, rfl⟩
          obtain ⟨sq, hsq⟩ : ∃ k : ByteArray, k = atS SS (atI I q').toNat := ⟨_, rfl⟩
          rw [← hky, ← hxy, ← hsy] at HO
          rw [← hkq, ← hxq, ← hsq] at HO2
          rw [← hky, ← hxy, ← hsy, ← hkq, ← hxq, ← hsq]
          obtain ⟨X1, hX1⟩ : ∃ X1, X1 = wb.alloc (.cells #[.int .u8 ky, .int .u64 xy, .string sy, .int .u8 kq, .int .u64 xq, .string sq] 42) := ⟨_, rfl⟩
          have B1 : Below wD.heap.size wD X1 := by rw [hX1]; exact hBb.alloc hBb.size _
          have g1 : X1.heap[wb.heap.size]? = some (.cells #[.int .u8 ky, .int .u64 xy, .string sy, .int .u8 kq, .int .u64 xq, .string sq] 42) := by rw [hX1]; exact (MapKept.heap_alloc wb _).1
          have C1 := hide (ecop_any (c0 := c0) (c1 := c1) (c2 := c2) (c3 := c3) (c4 := c4) (Q0.out.keep B1) (Q1.out.keep B1) (Q2.out.keep B1) (Q3.out.keep B1) (Q4.out.keep B1) H2.out H3.out H4.out hpn HPP.out.1 HPP.out.2)
          rw [HO] at C1
          have HB1 := hide B1
          have HG1 := hide g1
          clear hBb B1 g1 hky hxy hsy hkq hxq hsq
          go_wp2_with fail
          rw [← hX1]
          refine C1.out.mono ?_
          rintro e wc ⟨rfl, hBc⟩
          clear hX1 C1
          obtain ⟨X2, hX2⟩ : ∃ X2, X2 = wc.alloc (.cells #[.int .u8 ky, .int .u64 xy, .string sy] 40) := ⟨_, rfl⟩
          have B2 : Below X1.heap.size X1 X2 := by rw [hX2]; exact hBc.alloc hBc.size _
          have g2 : X2.heap[wc.heap.size]? = some (.cells #[.int .u8 ky, .int .u64 xy, .string sy] 40) := by rw [hX2]; exact (MapKept.heap_alloc wc _).1
          have BD2 : Below wD.heap.size wD X2 := HB1.out.trans (B2.mono HB1.out.size)
          have g1 := (B2.block wb.heap.size (Array.getElem?_eq_some_iff.1 HG1.out).1).trans HG1.out
          have C2 := hide (ecop_any (c0 := c0) (c1 := c1) (c2 := c2) (c3 := c3) (c4 := c4) (Q0.out.keep BD2) (Q1.out.keep BD2) (Q2.out.keep BD2) (Q3.out.keep BD2) (Q4.out.keep BD2) H2.out H3.out H4.out hqn HPQ.out.1 HPQ.out.2)
          rw [HO2] at C2
          have HBD2 := hide BD2
          replace HG1 := hide g1
          have HG2 := hide g2
          clear hBc B2 BD2 g1 g2 HB1
          go_wp2_with fail
          rw [← hX2]
          refine C2.out.mono ?_
          rintro e wd ⟨rfl, hBd⟩
          clear hX2 C2
          obtain ⟨X3, hX3⟩ : ∃ X3, X3 = wd.alloc (.cells #[.int .u8 kq, .int .u64 xq, .string sq] 40) := ⟨_, rfl⟩
          have B3 : Below X2.heap.size X2 X3 := by rw [hX3]; exact hBd.alloc hBd.size _
          have g3 : X3.heap[wd.heap.size]? = some (.cells #[.int .u8 kq, .int .u64 xq, .string sq] 40) := by rw [hX3]; exact (MapKept.heap_alloc wd _).1
          have g1 := (B3.block wb.heap.size (Array.getElem?_eq_some_iff.1 HG1.out).1).trans HG1.out
          have g2 := (B3.block wc.heap.size (Array.getElem?_eq_some_iff.1 HG2.out).1).trans HG2.out
          have BF : Below w0.heap.size w0 X3 := HBD.out.trans ((HBD2.out.trans (B3.mono HBD2.out.size)).mono HBD.out.size)
          have a0 : X3.cell? ⟨wb.heap.size, 0, none⟩ = some (.int .u8 ky) := cell_whole g1 rfl
          have a1 : X3.cell? ⟨wb.heap.size, 1, none⟩ = some (.int .u64 xy) := cell_whole g1 rfl
          have a2 : X3.cell? ⟨wb.heap.size, 2, none⟩ = some (.string sy) := cell_whole g1 rfl
          have a3 : X3.cell? ⟨wb.heap.size, 3, none⟩ = some (.int .u8 kq) := cell_whole g1 rfl
          have a4 : X3.cell? ⟨wb.heap.size, 4, none⟩ = some (.int .u64 xq) := cell_whole g1 rfl
          have a5 : X3.cell? ⟨wb.heap.size, 5, none⟩ = some (.string sq) := cell_whole g1 rfl
          have b0 : X3.cell? ⟨wc.heap.size, 0, none⟩ = some (.int .u8 ky) := cell_whole g2 rfl
          have b1 : X3.cell? ⟨wc.heap.size, 1, none⟩ = some (.int .u64 xy) := cell_whole g2 rfl
          have b2 : X3.cell? ⟨wc.heap.size, 2, none⟩ = some (.string sy) := cell_whole g2 rfl
          have d0 : X3.cell? ⟨wd.heap.size, 0, none⟩ = some (.int .u8 kq) := cell_whole g3 rfl
          have d1 : X3.cell? ⟨wd.heap.size, 1, none⟩ = some (.int .u64 xq) := cell_whole g3 rfl
          have d2 : X3.cell? ⟨wd.heap.size, 2, none⟩ = some (.string sq) := cell_whole g3 rfl
          have HBF := hide BF
          clear g1 g2 g3 BF B3 hBd HBD2 HG1 HG2 HBD HB
          rw [hX3] at a0 a1 a2 a3 a4 a5 b0 b1 b2 d0 d1 d2
          go_wp2_with fail
          rw [← hX3]
          go_ret
          exact ⟨rfl, HBF.out⟩
end Go.Proofs.Qxb6619273a
