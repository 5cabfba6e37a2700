/-
  The law's own walk: 'keyPath' against 'c2KeyNibs', and the end.
-/
import Derived.Test.Qxb6003407aHelp
namespace Go.Proofs.Qxb6003407a
open Go.RowKit

set_option maxRecDepth 1000000 in
set_option maxHeartbeats 2000000 in
theorem P20 (w W : World) (A L B M K : List Int) (t : Int) (x0 x1 x2 x3 x4 x6 x7 x8 x9 x10 x11 x12 x13 x14 x15 x18 x19 x20 x21 x22 x23 x24 x25 x26 x27 x28 x29 x30 x31 x32 x33 x34 x35 x36 x37 x38 x39 x40 x41 x42 x43 x44 x45 x46 x47 x48 x49 x50 x51 x52 x53 x54 x55 x56 x57 x58 x59 x60 x61 x62 x63 x64 x65 x66 x67 x68 x69 x70 x71 x72 x73 x74 x75 x76 x77 x78 x79 x80 x81 x82 x83 x84 x85 x86 x87 x88 x89 x90 x91 x92 x93 x94 x95 x96 x97 x98 x99 x100 x101 x102 x103 x104 x105 x106 x107 x108 x109 x110 x111 x112 x113 x114 x115 x116 x117 x118 x119 x120 x121 x122 x123 x124 x125 x126 x127 x128 x129 x130 x131 x132 x133 x134 x135 x136 x137 x138 x139 x140 x141 x142 x143 x144 x145 x146 x147 x148 x149 x150 x151 x152 x153 x154 x155 x156 x157 x158 x159 x160 x161 x162 x163 x164 x165 x166 x167 x168 x169 x170 x171 x172 x173 x174 x175 x176 x177 x178 x179 x180 x181 x182 x183 x184 x185 x186 x187 x188 x189 x190 x191 x192 x193 x194 x195 x196 x197 x198 x199 x200 x201 x202 x203 x204 x205 x206 x207 x208 x209 x210 x211 x212 x213 x214 x215 x216 x217 x218 x219 x220 x221 x222 x223 x224 x225 x226 x227 x228 x229 x230 x231 x232 x233 x234 x235 x236 x237 x238 x239 x240 x241 x242 x243 x244 x245 x246 x247 x248 x249 x250 x251 x252 x253 x254 x255 x256 x257 x258 x259 x260 x261 x262 x263 x264 x265 x266 x267 x268 x269 x270 x271 x272 x273 x274 x275 x276 x277 x278 x279 x280 x281 x282 x283 x284 x285 x286 x287 x288 x289 x290 x291 x292 x293 x294 x295 x296 x297 x298 x299 x300 x301 : Value) (h : Ctx w W A L B M K t x0 x1 x2 x3 x4) :
    Code.wp Try.prog (dropC 20 (Try.f3.body.getD .skip)) (bodyPost Try.prog Try.f3 fun e W' => e = .returned (.bool true) ∧ Below w.heap.size w W') ⟨#[x0, x1, x2, x3, x4, .int .u8 t, x6, x7, x8, x9, x10, x11, x12, x13, x14, x15, .int .i64 (A.length : Int), .int .i64 (B.length : Int), x18, x19, x20, x21, x22, x23, x24, x25, x26, x27, x28, x29, x30, x31, x32, x33, x34, x35, x36, x37, x38, x39, x40, x41, x42, x43, x44, x45, x46, x47, x48, x49, x50, x51, x52, x53, x54, x55, x56, x57, x58, x59, x60, x61, x62, x63, x64, x65, x66, x67, x68, x69, x70, x71, x72, x73, x74, x75, x76, x77, x78, x79, x80, x81, x82, x83, x84, x85, x86, x87, x88, x89, x90, x91, x92, x93, x94, x95, x96, x97, x98, x99, x100, x101, x102, x103, x104, x105, x106, x107, x108, x109, x110, x111, x112, x113, x114, x115, x116, x117, x118, x119, x120, x121, x122, x123, x124, x125, x126, x127, x128, x129, x130, x131, x132, x133, x134, x135, x136, x137, x138, x139, x140, x141, x142, x143, x144, x145, x146, x147, x148, x149, x150, x151, x152, x153, x154, x155, x156, x157, x158, x159, x160, x161, x162, x163, x164, x165, x166, x167, x168, x169, x170, x171, x172, x173, x174, x175, x176, x177, x178, x179, x180, x181, x182, x183, x184, x185, x186, x187, x188, x189, x190, x191, x192, x193, x194, x195, x196, x197, x198, x199, x200, x201, x202, x203, x204, x205, x206, x207, x208, x209, x210, x211, x212, x213, x214, x215, x216, x217, x218, x219, x220, x221, x222, x223, x224, x225, x226, x227, x228, x229, x230, x231, x232, x233, x234, x235, x236, x237, x238, x239, x240, x241, x242, x243, x244, x245, x246, x247, x248, x249, x250, x251, x252, x253, x254, x255, x256, x257, x258, x259, x260, x261, x262, x263, x264, x265, x266, x267, x268, x269, x270, x271, x272, x273, x274, x275, x276, x277, x278, x279, x280, x281, x282, x283, x284, x285, x286, x287, x288, x289, x290, x291, x292, x293, x294, x295, x296, x297, x298, x299, x300, x301], []⟩ W := by
  obtain ⟨a, n, c, hv⟩ := h.i4.slice
  subst hv
  have HC : Hid (Ctx w W A L B M K t x0 x1 x2 x3 (.slice a n c)) := h
  have hin := h.inside
  unfold Inside at hin
  obtain ⟨b1, b2, b3, b4, b5, b6, -, -⟩ := hin
  clear h
  conv => arg 2; whnf
  go_wp2_with fail
  refine (zkeypath_any _ K _ HC.out.i4 (by omega)).mono ?_
  rintro e w1 ⟨rfl, hb1⟩
  have HC1 := hid_mk (HC.out.on hb1)
  clear hb1 HC
  go_wp2_with fail
  refine (read_int _ K (2 * K.length) _ _ (by omega) HC1.out.i4 (by omega) (by omega)).mono ?_
  rintro e w2 ⟨v', rfl, hI2, hb2⟩
  have HC2 := hid_mk (HC1.out.on hb2)
  have HI2 := hid_mk hI2
  clear hb2 HC1 hI2
  go_wp2_with fail
  refine (keynibs_any _ K _ HC2.out.i4 (by omega)).mono ?_
  rintro e w3 ⟨v'', rfl, hI3, hb3⟩
  have HC3 := hid_mk (HC2.out.on hb3)
  have HI3 := hid_mk hI3
  have HI2' := hid_mk (HI2.out.below hb3)
  clear hb3 HC2 hI3 HI2
  go_wp2_with fail
  refine (eq_same _ _ _ _ _ HI2'.out HI3.out rfl).mono ?_
  rintro e w4 ⟨rfl, hb4⟩
  have HC4 := hid_mk (HC3.out.on hb4)
  clear hb4 HC3 HI2' HI3
  go_wp2
  go_ret
  exact ⟨rfl, HC4.out.below⟩

end Go.Proofs.Qxb6003407a
