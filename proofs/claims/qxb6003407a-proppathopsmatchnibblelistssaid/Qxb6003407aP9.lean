/-
  The law's own walk: the loop over 'path.pre..' and 'path.tail'.
-/
import Derived.Test.Qxb6003407aP10
namespace Go.Proofs.Qxb6003407a
open Go.RowKit

set_option maxRecDepth 1000000 in
set_option maxHeartbeats 2000000 in
theorem P9 (w W : World) (A L B M K : List Int) (t : Int) (x0 x1 x2 x3 x4 x6 x7 x8 x9 x10 x11 x12 x13 x14 x15 x18 x19 x20 x21 x22 x23 x24 x25 x26 x27 x28 x29 x30 x31 x32 x33 x34 x35 x36 x37 x38 x39 x40 x41 x42 x43 x44 x45 x46 x47 x48 x49 x50 x51 x52 x53 x54 x55 x56 x57 x58 x59 x60 x61 x62 x63 x64 x65 x66 x67 x68 x69 x70 x71 x72 x73 x74 x75 x76 x77 x78 x79 x80 x81 x82 x83 x84 x85 x86 x87 x88 x89 x90 x91 x92 x93 x94 x95 x96 x97 x98 x99 x100 x101 x102 x103 x104 x105 x106 x107 x108 x109 x110 x111 x112 x113 x114 x115 x116 x117 x118 x119 x120 x121 x122 x123 x124 x125 x126 x127 x128 x129 x130 x131 x132 x133 x134 x135 x136 x137 x138 x139 x140 x141 x142 x143 x144 x145 x146 x147 x148 x149 x150 x151 x152 x153 x154 x155 x156 x157 x158 x159 x160 x161 x162 x163 x164 x165 x166 x167 x168 x169 x170 x171 x172 x173 x174 x175 x176 x177 x178 x179 x180 x181 x182 x183 x184 x185 x186 x187 x188 x189 x190 x191 x192 x193 x194 x195 x196 x197 x198 x199 x200 x201 x202 x203 x204 x205 x206 x207 x208 x209 x210 x211 x212 x213 x214 x215 x216 x217 x218 x219 x220 x221 x222 x223 x224 x225 x226 x227 x228 x229 x230 x231 x232 x233 x234 x235 x236 x237 x238 x239 x240 x241 x242 x243 x244 x245 x246 x247 x248 x249 x250 x251 x252 x253 x254 x255 x256 x257 x258 x259 x260 x261 x262 x263 x264 x265 x266 x267 x268 x269 x270 x271 x272 x273 x274 x275 x276 x277 x278 x279 x280 x281 x282 x283 x284 x285 x286 x287 x288 x289 x290 x291 x292 x293 x294 x295 x296 x297 x298 x299 x300 x301 : Value) (h : Ctx w W A L B M K t x0 x1 x2 x3 x4) :
    Code.wp Try.prog (dropC 9 (Try.f3.body.getD .skip)) (bodyPost Try.prog Try.f3 fun e W' => e = .returned (.bool true) ∧ Below w.heap.size w W') ⟨#[x0, x1, x2, x3, x4, .int .u8 t, x6, x7, x8, x9, x10, x11, x12, x13, x14, x15, .int .i64 (A.length : Int), .int .i64 (B.length : Int), x18, x19, x20, x21, x22, x23, x24, x25, x26, x27, x28, x29, x30, x31, x32, x33, x34, x35, x36, x37, x38, x39, x40, x41, x42, x43, x44, x45, x46, x47, x48, x49, x50, x51, x52, x53, x54, x55, x56, x57, x58, x59, x60, x61, x62, x63, x64, x65, x66, x67, x68, x69, x70, x71, x72, x73, x74, x75, x76, x77, x78, x79, x80, x81, x82, x83, x84, x85, x86, x87, x88, x89, x90, x91, x92, x93, x94, x95, x96, x97, x98, x99, x100, x101, x102, x103, x104, x105, x106, x107, x108, x109, x110, x111, x112, x113, x114, x115, x116, x117, x118, x119, x120, x121, x122, x123, x124, x125, x126, x127, x128, x129, x130, x131, x132, x133, x134, x135, x136, x137, x138, x139, x140, x141, x142, x143, x144, x145, x146, x147, x148, x149, x150, x151, x152, x153, x154, x155, x156, x157, x158, x159, x160, x161, x162, x163, x164, x165, x166, x167, x168, x169, x170, x171, x172, x173, x174, x175, x176, x177, x178, x179, x180, x181, x182, x183, x184, x185, x186, x187, x188, x189, x190, x191, x192, x193, x194, x195, x196, x197, x198, x199, x200, x201, x202, x203, x204, x205, x206, x207, x208, x209, x210, x211, x212, x213, x214, x215, x216, x217, x218, x219, x220, x221, x222, x223, x224, x225, x226, x227, x228, x229, x230, x231, x232, x233, x234, x235, x236, x237, x238, x239, x240, x241, x242, x243, x244, x245, x246, x247, x248, x249, x250, x251, x252, x253, x254, x255, x256, x257, x258, x259, x260, x261, x262, x263, x264, x265, x266, x267, x268, x269, x270, x271, x272, x273, x274, x275, x276, x277, x278, x279, x280, x281, x282, x283, x284, x285, x286, x287, x288, x289, x290, x291, x292, x293, x294, x295, x296, x297, x298, x299, x300, x301], []⟩ W := by
  have HC : Hid (Ctx w W A L B M K t x0 x1 x2 x3 x4) := h
  have hin := h.inside
  unfold Inside at hin
  obtain ⟨b1, b2, b3, b4, b5, b6, hA, hB⟩ := hin
  have HA := hid_mk hA
  obtain ⟨a0, n0, c0, hv0⟩ := h.i0.slice
  obtain ⟨a1, n1, c1, hv1⟩ := h.i1.slice
  have hI0 := h.i0
  clear h hA hB
  subst hv0; subst hv1
  have hn0 := hI0.len
  subst hn0
  have hc0 : A.length ≤ c0 ∧ c0 ≤ maxLen := by
    obtain ⟨a', cap, hv, e1, e2, _⟩ := hI0
    cases hv
    exact ⟨e1, e2⟩
  obtain ⟨hc1, hc2⟩ := hc0
  unfold maxLen at hc2
  clear hI0
  conv => arg 2; whnf
  apply wp_seq_k
  intro K1 hK1
  have HK1 := hid_mk hK1
  clear hK1
  go_wp2
  go_loopw [19] (fun i wr => ∃ k : Nat, k ≤ A.length + 1 ∧ i = .int .i64 k ∧ Ctx w wr A L B M K t (.slice a0 A.length c0) (.slice a1 n1 c1) x2 x3 x4) (fun i _ => A.length + 1 - (intOf i).toNat)
  case atStart => exact ⟨0, Nat.zero_le _, rfl, HC.out⟩
  case round =>
    obtain ⟨k, hk, rfl, hcx⟩ := hrel
    have HC0 := hid_mk hcx
    clear HC hcx
    by_cases hlt : k ≤ A.length
    · by_cases hck : k = c0
      · obtain rfl := hck
        have i1 : (k : Int) ≤ (A.length : Int) := by omega
        have HRK : Hid ((k + 1) / 2 ≤ L.length) := by have := HA.out.1; show _ ≤ _; omega
        go_wp2_with fail
        refine (zpre_any _ L _ k _ HC0.out.i1 HRK.out b3).mono ?_
        rintro e w1 ⟨v', rfl, hI1, hb1⟩
        have HC1 := hid_mk (HC0.out.on hb1)
        have HI1 := hid_mk hI1
        clear hb1 hI1 HC0
        go_wp2_with fail
        refine (read_int _ _ k _ _ rfl HI1.out (by omega) (by rw [List.length_take]; have := HRK.out; omega)).mono ?_
        rintro e w2 ⟨v2, rfl, hI2, hb2⟩
        have HC2 := hid_mk (HC1.out.on hb2)
        have HI2 := hid_mk hI2
        clear hb2 hI2 HC1 HI1
        have HT := hid_mk ((HC2.out.i0).take k hlt)
        go_wp2_with fail
        refine (eq_same _ _ _ _ _ HI2.out HT.out (pre_tokens HA.out hlt)).mono ?_
        rintro e w3 ⟨rfl, hb3⟩
        have HC3 := hid_mk (HC2.out.on hb3)
        clear hb3 HC2 HI2 HT
        go_wp2_with fail
        refine (ztail_is _ L A k _ HC3.out.i1 HA.out hlt b3 b1).mono ?_
        rintro e w4 ⟨v4, J, x, rfl, hx, hJ, hl, hJt, hb4⟩
        have HX := hid_mk hx
        have HJ := hid_mk hJ
        have HJT := hid_mk hJt
        have HL := hid_mk hl
        have HC4 := hid_mk (HC3.out.on hb4)
        clear hb4 hx hJ hl hJt HC3
        go_wp2_with fail
        refine (read_int _ J (A.length - k) _ _ HX.out HJ.out (by omega) HL.out).mono ?_
        rintro e w5 ⟨v5, rfl, hI5, hb5⟩
        have HC5 := hid_mk (HC4.out.on hb5)
        have HI5 := hid_mk hI5
        clear hb5 hI5 HC4 HJ HL HX
        go_wp2_with fail
        refine (eq_same _ _ _ _ _ HI5.out (HC5.out.i0.drop (m := 0) (c' := 0) (a' := a0) k hlt (by omega) (by omega) (Nat.zero_le _) (fun _ _ h => absurd h (by omega))) HJT.out).mono ?_
        rintro e w6 ⟨rfl, hb6⟩
        have HC6 := hid_mk (HC5.out.on hb6)
        clear hb6 HC5 HI5 HJT
        go_wp2
        go_roundw
        case rel => exact ⟨k + 1, by omega, by go_num, HC6.out⟩
        case measure => simp [intOf]; omega
      · have hck2 : ¬ c0 = k := fun e => hck e.symm
        have i1 : (k : Int) ≤ (A.length : Int) := by omega
        have HRK : Hid ((k + 1) / 2 ≤ L.length) := by have := HA.out.1; show _ ≤ _; omega
        go_wp2_with fail
        refine (zpre_any _ L _ k _ HC0.out.i1 HRK.out b3).mono ?_
        rintro e w1 ⟨v', rfl, hI1, hb1⟩
        have HC1 := hid_mk (HC0.out.on hb1)
        have HI1 := hid_mk hI1
        clear hb1 hI1 HC0
        go_wp2_with fail
        refine (read_int _ _ k _ _ rfl HI1.out (by omega) (by rw [List.length_take]; have := HRK.out; omega)).mono ?_
        rintro e w2 ⟨v2, rfl, hI2, hb2⟩
        have HC2 := hid_mk (HC1.out.on hb2)
        have HI2 := hid_mk hI2
        clear hb2 hI2 HC1 HI1
        have HT := hid_mk ((HC2.out.i0).take k hlt)
        go_wp2_with fail
        refine (eq_same _ _ _ _ _ HI2.out HT.out (pre_tokens HA.out hlt)).mono ?_
        rintro e w3 ⟨rfl, hb3⟩
        have HC3 := hid_mk (HC2.out.on hb3)
        clear hb3 HC2 HI2 HT
        go_wp2_with fail
        refine (ztail_is _ L A k _ HC3.out.i1 HA.out hlt b3 b1).mono ?_
        rintro e w4 ⟨v4, J, x, rfl, hx, hJ, hl, hJt, hb4⟩
        have HX := hid_mk hx
        have HJ := hid_mk hJ
        have HJT := hid_mk hJt
        have HL := hid_mk hl
        have HC4 := hid_mk (HC3.out.on hb4)
        clear hb4 hx hJ hl hJt HC3
        go_wp2_with fail
        refine (read_int _ J (A.length - k) _ _ HX.out HJ.out (by omega) HL.out).mono ?_
        rintro e w5 ⟨v5, rfl, hI5, hb5⟩
        have HC5 := hid_mk (HC4.out.on hb5)
        have HI5 := hid_mk hI5
        clear hb5 hI5 HC4 HJ HL HX
        go_wp2_with fail
        refine (eq_same _ _ _ _ _ HI5.out (HC5.out.i0.drop k hlt rfl (by omega) (by unfold maxLen; omega) (fun b off _ h => by rw [h]; simp [Addr.add])) HJT.out).mono ?_
        rintro e w6 ⟨rfl, hb6⟩
        have HC6 := hid_mk (HC5.out.on hb6)
        clear hb6 HC5 HI5 HJT
        go_wp2
        go_roundw
        case rel => exact ⟨k + 1, by omega, by go_num, HC6.out⟩
        case measure => simp [intOf]; omega
    · go_wp2
      refine HK1.out _ _ ?_
      exact P10 w _ A L B M K t _ _ _ _ _ _ _ _ _ _ _ _ _ _ _ _ _ _ _ _ _ _ _ _ _ _ _ _ _ _ _ _ _ _ _ _ _ _ _ _ _ _ _ _ _ _ _ _ _ _ _ _ _ _ _ _ _ _ _ _ _ _ _ _ _ _ _ _ _ _ _ _ _ _ _ _ _ _ _ _ _ _ _ _ _ _ _ _ _ _ _ _ _ _ _ _ _ _ _ _ _ _ _ _ _ _ _ _ _ _ _ _ _ _ _ _ _ _ _ _ _ _ _ _ _ _ _ _ _ _ _ _ _ _ _ _ _ _ _ _ _ _ _ _ _ _ _ _ _ _ _ _ _ _ _ _ _ _ _ _ _ _ _ _ _ _ _ _ _ _ _ _ _ _ _ _ _ _ _ _ _ _ _ _ _ _ _ _ _ _ _ _ _ _ _ _ _ _ _ _ _ _ _ _ _ _ _ _ _ _ _ _ _ _ _ _ _ _ _ _ _ _ _ _ _ _ _ _ _ _ _ _ _ _ _ _ _ _ _ _ _ _ _ _ _ _ _ _ _ _ _ _ _ _ _ _ _ _ _ _ _ _ _ _ _ _ _ _ _ _ _ _ _ _ _ _ _ _ _ _ _ _ _ _ _ _ _ _ _ _ _ _ _ _ _ _ _ _ _ HC0.out

end Go.Proofs.Qxb6003407a
