/- Joined by pack.py: NextRt, BrS, BrO, BrN. -/
import Derived.Test.YtonifkkdokaooaaFmtP23
import Derived.StillTailTactics
import Derived.Test.YtonifkkdokaooaaFmtP22
/- Walk: regexpNext's 'switch c', a case. Printed by gen_next.py. -/
namespace Go.Proofs.YtonifkkdokaooaaFmt
open Go.RowKit Go.Extern.Stop Go.Stop Go.Extern
set_option linter.unusedVariables false


def thC : Code → Code | .cond _ a _ => a | c => c
def elC : Code → Code | .cond _ _ b => b | c => c
def blC : Code → Code | .block _ b => b | c => c
noncomputable def starC : Code := thC (sq2 (elC (sq2 (blC (sq2 (sq1 restC))))))
noncomputable def c41 : Code := thC (sq2 (sq1 (sq2 (sq2 starC))))
noncomputable def c42 : Code := sq1 (sq2 c41)
set_option maxRecDepth 1000000 in
set_option maxHeartbeats 8000000 in
theorem reg42a (F : Interp) (B b ls k3 k4 : Nat) (s : ByteArray) (eof : Value) (j : Nat) (acc : List UInt8) (m : Int) (sb : Bool) (W : World) (K : Act → World → Prop) (Q : Exit → Act → World → Prop)
    (hst : St F B b ls k3 k4 s eof j acc W) (hq : j = s.size) (v0 v1 x5 x8 x9 x10 x11 x13 x14 x15 x16 x17 x18 x19 x20 x21 x22 x23 x24 x25 x26 x27 x28 x29 x30 x31 x32 x33 x34 x35 x36 x37 x38 x39 x40 x41 x42 x43 x44 x45 x46 x47 x48 x49 x50 x51 x52 x53 x54 x55 x56 x57 x58 x59 x60 x61 x62 x63 x64 x65 x66 x67 x68 x69 x70 x71 x72 x73 x74 x75 x76 x77 x78 x79 x80 x81 x82 x83 x84 x85 x86 x87 x88 x89 x90 x91 x92 x93 x94 x95 x96 x97 x98 x99 x100 x101 x102 x103 x104 x105 x106 x107 x108 x109 x110 x111 x112 x113 x114 x115 x116 x117 x118 x119 x120 x121 x122 x123 x124 x125 x126 x127 x128 x129 x130 x131 x132 x133 x134 x135 x136 x137 x138 x139 x140 x141 x142 x143 x144 x145 x146 x147 x148 x149 x150 x151 x152 x153 x154 x155 x156 x157 x158 x159 x160 x161 x162 x163 x164 x165 x166 x167 x168 x169 x170 x171 x172 x173 x174 x175 x176 x177 x178 x179 x180 x181 x182 x183 x184 x185 x186 x187 x188 x189 x190 x191 x192 x193 x194 x195 x196 x197 x198 x199 x200 x201 x202 x203 x204 x205 x206 x207 x208 x209 x210 x211 x212 x213 x214 x215 x216 x217 x218 x219 x220 x221 x222 x223 x224 x225 x226 x227 x228 x229 x230 x231 x232 x233 x234 x235 x236 x237 x238 x239 x240 x241 x242 x243 x244 x245 x246 x247 x248 x249 x250 x251 x252 x253 x254 x255 x256 x257 x258 x259 x260 x261 x262 x263 x264 x265 x266 x267 x268 x269 x270 x271 x272 x273 x274 x275 x276 x277 x278 x279 x280 x281 x282 x283 x284 x285 x286 x287 x288 x289 x290 x291 x292 x293 x294 x295 x296 x297 x298 x299 x300 x301 x302 x303 x304 x305 x306 x307 x308 x309 x310 x311 x312 x313 x314 x315 x316 x317 x318 x319 x320 x321 x322 x323 x324 x325 x326 x327 x328 x329 x330 x331 x332 x333 x334 x335 x336 x337 x338 x339 x340 x341 x342 x343 x344 x345 x346 x347 x348 x349 x350 x351 x352 x353 x354 x355 x356 x357 x358 x359 x360 x361 x362 x363 x364 x365 x366 x367 x368 x369 x370 x371 x372 x373 x374 x375 x376 x377 x378 x379 x380 x381 x382 x383 x384 x385 x386 x387 x388 : Value)
    (hK : ∀ (y137 y138 y139 y140 y141 y142 y143 y144 y145 y146 y147 y148 y149 y150 y151 : Value) wx, Below W.heap.size W wx → K ⟨#[v0, v1, .int .u64 m, .pointer (some ⟨k3, 0, none⟩), .pointer (some ⟨k4, 0, none⟩), x5, .nilIface, .int .i32 42, x8, x9, x10, x11, .bool sb, .bool true, x14, x15, x16, x17, x18, x19, x20, x21, x22, x23, x24, x25, x26, x27, x28, x29, x30, x31, x32, x33, x34, x35, x36, x37, x38, x39, x40, x41, x42, x43, x44, x45, x46, x47, x48, x49, x50, x51, x52, x53, x54, x55, x56, x57, x58, x59, x60, x61, x62, x63, x64, x65, x66, x67, x68, x69, x70, x71, x72, x73, x74, x75, x76, x77, x78, x79, x80, x81, x82, x83, x84, x85, x86, x87, x88, x89, x90, x91, x92, x93, x94, x95, x96, x97, x98, x99, x100, x101, x102, x103, x104, x105, x106, x107, x108, x109, x110, x111, x112, x113, x114, x115, x116, x117, x118, x119, x120, x121, x122, x123, x124, x125, x126, x127, x128, x129, x130, x131, x132, x133, x134, x135, x136, y137, y138, y139, y140, y141, y142, y143, y144, y145, y146, y147, y148, y149, y150, y151, x152, x153, x154, x155, x156, x157, x158, x159, x160, x161, x162, x163, x164, x165, x166, x167, x168, x169, x170, x171, x172, x173, x174, x175, x176, x177, x178, x179, x180, x181, x182, x183, x184, x185, x186, x187, x188, x189, x190, x191, x192, x193, x194, x195, x196, x197, x198, x199, x200, x201, x202, x203, x204, x205, x206, x207, x208, x209, x210, x211, x212, x213, x214, x215, x216, x217, x218, x219, x220, x221, x222, x223, x224, x225, x226, x227, x228, x229, x230, x231, x232, x233, x234, x235, x236, x237, x238, x239, x240, x241, x242, x243, x244, x245, x246, x247, x248, x249, x250, x251, x252, x253, x254, x255, x256, x257, x258, x259, x260, x261, x262, x263, x264, x265, x266, x267, x268, x269, x270, x271, x272, x273, x274, x275, x276, x277, x278, x279, x280, x281, x282, x283, x284, x285, x286, x287, x288, x289, x290, x291, x292, x293, x294, x295, x296, x297, x298, x299, x300, x301, x302, x303, x304, x305, x306, x307, x308, x309, x310, x311, x312, x313, x314, x315, x316, x317, x318, x319, x320, x321, x322, x323, x324, x325, x326, x327, x328, x329, x330, x331, x332, x333, x334, x335, x336, x337, x338, x339, x340, x341, x342, x343, x344, x345, x346, x347, x348, x349, x350, x351, x352, x353, x354, x355, x356, x357, x358, x359, x360, x361, x362, x363, x364, x365, x366, x367, x368, x369, x370, x371, x372, x373, x374, x375, x376, x377, x378, x379, x380, x381, x382, x383, x384, x385, x386, x387, x388], []⟩ wx) :
    Code.wp Tryf.prog c42 (Exit.then K Q) ⟨#[v0, v1, .int .u64 m, .pointer (some ⟨k3, 0, none⟩), .pointer (some ⟨k4, 0, none⟩), x5, .nilIface, .int .i32 42, x8, x9, x10, x11, .bool sb, x13, x14, x15, x16, x17, x18, x19, x20, x21, x22, x23, x24, x25, x26, x27, x28, x29, x30, x31, x32, x33, x34, x35, x36, x37, x38, x39, x40, x41, x42, x43, x44, x45, x46, x47, x48, x49, x50, x51, x52, x53, x54, x55, x56, x57, x58, x59, x60, x61, x62, x63, x64, x65, x66, x67, x68, x69, x70, x71, x72, x73, x74, x75, x76, x77, x78, x79, x80, x81, x82, x83, x84, x85, x86, x87, x88, x89, x90, x91, x92, x93, x94, x95, x96, x97, x98, x99, x100, x101, x102, x103, x104, x105, x106, x107, x108, x109, x110, x111, x112, x113, x114, x115, x116, x117, x118, x119, x120, x121, x122, x123, x124, x125, x126, x127, x128, x129, x130, x131, x132, x133, x134, x135, x136, x137, x138, x139, x140, x141, x142, x143, x144, x145, x146, x147, x148, x149, x150, x151, x152, x153, x154, x155, x156, x157, x158, x159, x160, x161, x162, x163, x164, x165, x166, x167, x168, x169, x170, x171, x172, x173, x174, x175, x176, x177, x178, x179, x180, x181, x182, x183, x184, x185, x186, x187, x188, x189, x190, x191, x192, x193, x194, x195, x196, x197, x198, x199, x200, x201, x202, x203, x204, x205, x206, x207, x208, x209, x210, x211, x212, x213, x214, x215, x216, x217, x218, x219, x220, x221, x222, x223, x224, x225, x226, x227, x228, x229, x230, x231, x232, x233, x234, x235, x236, x237, x238, x239, x240, x241, x242, x243, x244, x245, x246, x247, x248, x249, x250, x251, x252, x253, x254, x255, x256, x257, x258, x259, x260, x261, x262, x263, x264, x265, x266, x267, x268, x269, x270, x271, x272, x273, x274, x275, x276, x277, x278, x279, x280, x281, x282, x283, x284, x285, x286, x287, x288, x289, x290, x291, x292, x293, x294, x295, x296, x297, x298, x299, x300, x301, x302, x303, x304, x305, x306, x307, x308, x309, x310, x311, x312, x313, x314, x315, x316, x317, x318, x319, x320, x321, x322, x323, x324, x325, x326, x327, x328, x329, x330, x331, x332, x333, x334, x335, x336, x337, x338, x339, x340, x341, x342, x343, x344, x345, x346, x347, x348, x349, x350, x351, x352, x353, x354, x355, x356, x357, x358, x359, x360, x361, x362, x363, x364, x365, x366, x367, x368, x369, x370, x371, x372, x373, x374, x375, x376, x377, x378, x379, x380, x381, x382, x383, x384, x385, x386, x387, x388], []⟩ W := by
  obtain ⟨h3, h4, h1, h0⟩ := hst.cells
  have hqb : ((j : Int) == (s.size : Int)) = true := by rw [beq_iff_eq]; omega
  have HK := Lib.hid hK
  clear hst hq hK
  conv => arg 2; whnf
  go_quiet (fail)
  go_wp2_with fail
  exact HK.out _ _ _ _ _ _ _ _ _ _ _ _ _ _ _ _ (bdn _ nq)
set_option maxRecDepth 1000000 in
set_option maxHeartbeats 8000000 in
theorem reg42b (F : Interp) (B b ls k3 k4 : Nat) (s : ByteArray) (eof : Value) (j : Nat) (acc : List UInt8) (m : Int) (sb sa : Bool) (W : World) (K : Act → World → Prop) (Q : Exit → Act → World → Prop)
    (hst : St F B b ls k3 k4 s eof j acc W) (hq : j ≠ s.size) (hsa : ((nx s j).1 == 47) = sa) (v0 v1 x5 x8 x9 x10 x11 x13 x14 x15 x16 x17 x18 x19 x20 x21 x22 x23 x24 x25 x26 x27 x28 x29 x30 x31 x32 x33 x34 x35 x36 x37 x38 x39 x40 x41 x42 x43 x44 x45 x46 x47 x48 x49 x50 x51 x52 x53 x54 x55 x56 x57 x58 x59 x60 x61 x62 x63 x64 x65 x66 x67 x68 x69 x70 x71 x72 x73 x74 x75 x76 x77 x78 x79 x80 x81 x82 x83 x84 x85 x86 x87 x88 x89 x90 x91 x92 x93 x94 x95 x96 x97 x98 x99 x100 x101 x102 x103 x104 x105 x106 x107 x108 x109 x110 x111 x112 x113 x114 x115 x116 x117 x118 x119 x120 x121 x122 x123 x124 x125 x126 x127 x128 x129 x130 x131 x132 x133 x134 x135 x136 x137 x138 x139 x140 x141 x142 x143 x144 x145 x146 x147 x148 x149 x150 x151 x152 x153 x154 x155 x156 x157 x158 x159 x160 x161 x162 x163 x164 x165 x166 x167 x168 x169 x170 x171 x172 x173 x174 x175 x176 x177 x178 x179 x180 x181 x182 x183 x184 x185 x186 x187 x188 x189 x190 x191 x192 x193 x194 x195 x196 x197 x198 x199 x200 x201 x202 x203 x204 x205 x206 x207 x208 x209 x210 x211 x212 x213 x214 x215 x216 x217 x218 x219 x220 x221 x222 x223 x224 x225 x226 x227 x228 x229 x230 x231 x232 x233 x234 x235 x236 x237 x238 x239 x240 x241 x242 x243 x244 x245 x246 x247 x248 x249 x250 x251 x252 x253 x254 x255 x256 x257 x258 x259 x260 x261 x262 x263 x264 x265 x266 x267 x268 x269 x270 x271 x272 x273 x274 x275 x276 x277 x278 x279 x280 x281 x282 x283 x284 x285 x286 x287 x288 x289 x290 x291 x292 x293 x294 x295 x296 x297 x298 x299 x300 x301 x302 x303 x304 x305 x306 x307 x308 x309 x310 x311 x312 x313 x314 x315 x316 x317 x318 x319 x320 x321 x322 x323 x324 x325 x326 x327 x328 x329 x330 x331 x332 x333 x334 x335 x336 x337 x338 x339 x340 x341 x342 x343 x344 x345 x346 x347 x348 x349 x350 x351 x352 x353 x354 x355 x356 x357 x358 x359 x360 x361 x362 x363 x364 x365 x366 x367 x368 x369 x370 x371 x372 x373 x374 x375 x376 x377 x378 x379 x380 x381 x382 x383 x384 x385 x386 x387 x388 : Value)
    (hK : ∀ (y137 y138 y139 y140 y141 y142 y143 y144 y145 y146 y147 y148 y149 y150 y151 : Value) wx, Below W.heap.size W wx → K ⟨#[v0, v1, .int .u64 m, .pointer (some ⟨k3, 0, none⟩), .pointer (some ⟨k4, 0, none⟩), x5, .nilIface, .int .i32 42, x8, x9, x10, x11, .bool sb, .bool sa, x14, x15, x16, x17, x18, x19, x20, x21, x22, x23, x24, x25, x26, x27, x28, x29, x30, x31, x32, x33, x34, x35, x36, x37, x38, x39, x40, x41, x42, x43, x44, x45, x46, x47, x48, x49, x50, x51, x52, x53, x54, x55, x56, x57, x58, x59, x60, x61, x62, x63, x64, x65, x66, x67, x68, x69, x70, x71, x72, x73, x74, x75, x76, x77, x78, x79, x80, x81, x82, x83, x84, x85, x86, x87, x88, x89, x90, x91, x92, x93, x94, x95, x96, x97, x98, x99, x100, x101, x102, x103, x104, x105, x106, x107, x108, x109, x110, x111, x112, x113, x114, x115, x116, x117, x118, x119, x120, x121, x122, x123, x124, x125, x126, x127, x128, x129, x130, x131, x132, x133, x134, x135, x136, y137, y138, y139, y140, y141, y142, y143, y144, y145, y146, y147, y148, y149, y150, y151, x152, x153, x154, x155, x156, x157, x158, x159, x160, x161, x162, x163, x164, x165, x166, x167, x168, x169, x170, x171, x172, x173, x174, x175, x176, x177, x178, x179, x180, x181, x182, x183, x184, x185, x186, x187, x188, x189, x190, x191, x192, x193, x194, x195, x196, x197, x198, x199, x200, x201, x202, x203, x204, x205, x206, x207, x208, x209, x210, x211, x212, x213, x214, x215, x216, x217, x218, x219, x220, x221, x222, x223, x224, x225, x226, x227, x228, x229, x230, x231, x232, x233, x234, x235, x236, x237, x238, x239, x240, x241, x242, x243, x244, x245, x246, x247, x248, x249, x250, x251, x252, x253, x254, x255, x256, x257, x258, x259, x260, x261, x262, x263, x264, x265, x266, x267, x268, x269, x270, x271, x272, x273, x274, x275, x276, x277, x278, x279, x280, x281, x282, x283, x284, x285, x286, x287, x288, x289, x290, x291, x292, x293, x294, x295, x296, x297, x298, x299, x300, x301, x302, x303, x304, x305, x306, x307, x308, x309, x310, x311, x312, x313, x314, x315, x316, x317, x318, x319, x320, x321, x322, x323, x324, x325, x326, x327, x328, x329, x330, x331, x332, x333, x334, x335, x336, x337, x338, x339, x340, x341, x342, x343, x344, x345, x346, x347, x348, x349, x350, x351, x352, x353, x354, x355, x356, x357, x358, x359, x360, x361, x362, x363, x364, x365, x366, x367, x368, x369, x370, x371, x372, x373, x374, x375, x376, x377, x378, x379, x380, x381, x382, x383, x384, x385, x386, x387, x388], []⟩ wx) :
    Code.wp Tryf.prog c42 (Exit.then K Q) ⟨#[v0, v1, .int .u64 m, .pointer (some ⟨k3, 0, none⟩), .pointer (some ⟨k4, 0, none⟩), x5, .nilIface, .int .i32 42, x8, x9, x10, x11, .bool sb, x13, x14, x15, x16, x17, x18, x19, x20, x21, x22, x23, x24, x25, x26, x27, x28, x29, x30, x31, x32, x33, x34, x35, x36, x37, x38, x39, x40, x41, x42, x43, x44, x45, x46, x47, x48, x49, x50, x51, x52, x53, x54, x55, x56, x57, x58, x59, x60, x61, x62, x63, x64, x65, x66, x67, x68, x69, x70, x71, x72, x73, x74, x75, x76, x77, x78, x79, x80, x81, x82, x83, x84, x85, x86, x87, x88, x89, x90, x91, x92, x93, x94, x95, x96, x97, x98, x99, x100, x101, x102, x103, x104, x105, x106, x107, x108, x109, x110, x111, x112, x113, x114, x115, x116, x117, x118, x119, x120, x121, x122, x123, x124, x125, x126, x127, x128, x129, x130, x131, x132, x133, x134, x135, x136, x137, x138, x139, x140, x141, x142, x143, x144, x145, x146, x147, x148, x149, x150, x151, x152, x153, x154, x155, x156, x157, x158, x159, x160, x161, x162, x163, x164, x165, x166, x167, x168, x169, x170, x171, x172, x173, x174, x175, x176, x177, x178, x179, x180, x181, x182, x183, x184, x185, x186, x187, x188, x189, x190, x191, x192, x193, x194, x195, x196, x197, x198, x199, x200, x201, x202, x203, x204, x205, x206, x207, x208, x209, x210, x211, x212, x213, x214, x215, x216, x217, x218, x219, x220, x221, x222, x223, x224, x225, x226, x227, x228, x229, x230, x231, x232, x233, x234, x235, x236, x237, x238, x239, x240, x241, x242, x243, x244, x245, x246, x247, x248, x249, x250, x251, x252, x253, x254, x255, x256, x257, x258, x259, x260, x261, x262, x263, x264, x265, x266, x267, x268, x269, x270, x271, x272, x273, x274, x275, x276, x277, x278, x279, x280, x281, x282, x283, x284, x285, x286, x287, x288, x289, x290, x291, x292, x293, x294, x295, x296, x297, x298, x299, x300, x301, x302, x303, x304, x305, x306, x307, x308, x309, x310, x311, x312, x313, x314, x315, x316, x317, x318, x319, x320, x321, x322, x323, x324, x325, x326, x327, x328, x329, x330, x331, x332, x333, x334, x335, x336, x337, x338, x339, x340, x341, x342, x343, x344, x345, x346, x347, x348, x349, x350, x351, x352, x353, x354, x355, x356, x357, x358, x359, x360, x361, x362, x363, x364, x365, x366, x367, x368, x369, x370, x371, x372, x373, x374, x375, x376, x377, x378, x379, x380, x381, x382, x383, x384, x385, x386, x387, x388], []⟩ W := by
  obtain ⟨h3, h4, h1, h0⟩ := hst.cells
  have hqb : ((j : Int) == (s.size : Int)) = false := by rw [beq_eq_false_iff_ne]; omega
  have hsb : (((nx s j).1 : Int) == 47) = sa := by rw [slash_nat]; exact hsa
  have HPK := Lib.hid (fun wy (hb : Below W.heap.size W wy) => peekNext_any ls s j wy (hst.below hb).L hst.hi (by have := hst.base.hs; omega) (hst.below hb).base.T)
  have HK := Lib.hid hK
  have HS := Lib.hid (hst.below (Below.refl _ _).drew).cells
  clear hst hq hK hsa
  conv => arg 2; whnf
  go_still_tail 11, (by kernel_rfl)
  change wpList _ _ _ _ _ W.drew
  obtain ⟨d3, d4, d1, d0⟩ := HS.out
  have hbd : Below W.heap.size W W.drew := (Below.refl _ _).drew
  generalize W.drew = w2 at *
  go_wp2_with fail
  refine (HPK.out _ hbd).mono ?_
  rintro e w3 ⟨rfl, hb3⟩
  go_wp2_with fail
  exact HK.out _ _ _ _ _ _ _ _ _ _ _ _ _ _ _ _ (below_tr hbd hb3)
theorem reg42 (F : Interp) (B b ls k3 k4 : Nat) (s : ByteArray) (eof : Value) (j : Nat) (acc : List UInt8) (m : Int) (sb sa : Bool) (W : World) (K : Act → World → Prop) (Q : Exit → Act → World → Prop)
    (hst : St F B b ls k3 k4 s eof j acc W) (hsa : (j == s.size || (nx s j).1 == 47) = sa) (v0 v1 x5 x8 x9 x10 x11 x13 x14 x15 x16 x17 x18 x19 x20 x21 x22 x23 x24 x25 x26 x27 x28 x29 x30 x31 x32 x33 x34 x35 x36 x37 x38 x39 x40 x41 x42 x43 x44 x45 x46 x47 x48 x49 x50 x51 x52 x53 x54 x55 x56 x57 x58 x59 x60 x61 x62 x63 x64 x65 x66 x67 x68 x69 x70 x71 x72 x73 x74 x75 x76 x77 x78 x79 x80 x81 x82 x83 x84 x85 x86 x87 x88 x89 x90 x91 x92 x93 x94 x95 x96 x97 x98 x99 x100 x101 x102 x103 x104 x105 x106 x107 x108 x109 x110 x111 x112 x113 x114 x115 x116 x117 x118 x119 x120 x121 x122 x123 x124 x125 x126 x127 x128 x129 x130 x131 x132 x133 x134 x135 x136 x137 x138 x139 x140 x141 x142 x143 x144 x145 x146 x147 x148 x149 x150 x151 x152 x153 x154 x155 x156 x157 x158 x159 x160 x161 x162 x163 x164 x165 x166 x167 x168 x169 x170 x171 x172 x173 x174 x175 x176 x177 x178 x179 x180 x181 x182 x183 x184 x185 x186 x187 x188 x189 x190 x191 x192 x193 x194 x195 x196 x197 x198 x199 x200 x201 x202 x203 x204 x205 x206 x207 x208 x209 x210 x211 x212 x213 x214 x215 x216 x217 x218 x219 x220 x221 x222 x223 x224 x225 x226 x227 x228 x229 x230 x231 x232 x233 x234 x235 x236 x237 x238 x239 x240 x241 x242 x243 x244 x245 x246 x247 x248 x249 x250 x251 x252 x253 x254 x255 x256 x257 x258 x259 x260 x261 x262 x263 x264 x265 x266 x267 x268 x269 x270 x271 x272 x273 x274 x275 x276 x277 x278 x279 x280 x281 x282 x283 x284 x285 x286 x287 x288 x289 x290 x291 x292 x293 x294 x295 x296 x297 x298 x299 x300 x301 x302 x303 x304 x305 x306 x307 x308 x309 x310 x311 x312 x313 x314 x315 x316 x317 x318 x319 x320 x321 x322 x323 x324 x325 x326 x327 x328 x329 x330 x331 x332 x333 x334 x335 x336 x337 x338 x339 x340 x341 x342 x343 x344 x345 x346 x347 x348 x349 x350 x351 x352 x353 x354 x355 x356 x357 x358 x359 x360 x361 x362 x363 x364 x365 x366 x367 x368 x369 x370 x371 x372 x373 x374 x375 x376 x377 x378 x379 x380 x381 x382 x383 x384 x385 x386 x387 x388 : Value)
    (hK : ∀ (y137 y138 y139 y140 y141 y142 y143 y144 y145 y146 y147 y148 y149 y150 y151 : Value) wx, Below W.heap.size W wx → K ⟨#[v0, v1, .int .u64 m, .pointer (some ⟨k3, 0, none⟩), .pointer (some ⟨k4, 0, none⟩), x5, .nilIface, .int .i32 42, x8, x9, x10, x11, .bool sb, .bool sa, x14, x15, x16, x17, x18, x19, x20, x21, x22, x23, x24, x25, x26, x27, x28, x29, x30, x31, x32, x33, x34, x35, x36, x37, x38, x39, x40, x41, x42, x43, x44, x45, x46, x47, x48, x49, x50, x51, x52, x53, x54, x55, x56, x57, x58, x59, x60, x61, x62, x63, x64, x65, x66, x67, x68, x69, x70, x71, x72, x73, x74, x75, x76, x77, x78, x79, x80, x81, x82, x83, x84, x85, x86, x87, x88, x89, x90, x91, x92, x93, x94, x95, x96, x97, x98, x99, x100, x101, x102, x103, x104, x105, x106, x107, x108, x109, x110, x111, x112, x113, x114, x115, x116, x117, x118, x119, x120, x121, x122, x123, x124, x125, x126, x127, x128, x129, x130, x131, x132, x133, x134, x135, x136, y137, y138, y139, y140, y141, y142, y143, y144, y145, y146, y147, y148, y149, y150, y151, x152, x153, x154, x155, x156, x157, x158, x159, x160, x161, x162, x163, x164, x165, x166, x167, x168, x169, x170, x171, x172, x173, x174, x175, x176, x177, x178, x179, x180, x181, x182, x183, x184, x185, x186, x187, x188, x189, x190, x191, x192, x193, x194, x195, x196, x197, x198, x199, x200, x201, x202, x203, x204, x205, x206, x207, x208, x209, x210, x211, x212, x213, x214, x215, x216, x217, x218, x219, x220, x221, x222, x223, x224, x225, x226, x227, x228, x229, x230, x231, x232, x233, x234, x235, x236, x237, x238, x239, x240, x241, x242, x243, x244, x245, x246, x247, x248, x249, x250, x251, x252, x253, x254, x255, x256, x257, x258, x259, x260, x261, x262, x263, x264, x265, x266, x267, x268, x269, x270, x271, x272, x273, x274, x275, x276, x277, x278, x279, x280, x281, x282, x283, x284, x285, x286, x287, x288, x289, x290, x291, x292, x293, x294, x295, x296, x297, x298, x299, x300, x301, x302, x303, x304, x305, x306, x307, x308, x309, x310, x311, x312, x313, x314, x315, x316, x317, x318, x319, x320, x321, x322, x323, x324, x325, x326, x327, x328, x329, x330, x331, x332, x333, x334, x335, x336, x337, x338, x339, x340, x341, x342, x343, x344, x345, x346, x347, x348, x349, x350, x351, x352, x353, x354, x355, x356, x357, x358, x359, x360, x361, x362, x363, x364, x365, x366, x367, x368, x369, x370, x371, x372, x373, x374, x375, x376, x377, x378, x379, x380, x381, x382, x383, x384, x385, x386, x387, x388], []⟩ wx) :
    Code.wp Tryf.prog c42 (Exit.then K Q) ⟨#[v0, v1, .int .u64 m, .pointer (some ⟨k3, 0, none⟩), .pointer (some ⟨k4, 0, none⟩), x5, .nilIface, .int .i32 42, x8, x9, x10, x11, .bool sb, x13, x14, x15, x16, x17, x18, x19, x20, x21, x22, x23, x24, x25, x26, x27, x28, x29, x30, x31, x32, x33, x34, x35, x36, x37, x38, x39, x40, x41, x42, x43, x44, x45, x46, x47, x48, x49, x50, x51, x52, x53, x54, x55, x56, x57, x58, x59, x60, x61, x62, x63, x64, x65, x66, x67, x68, x69, x70, x71, x72, x73, x74, x75, x76, x77, x78, x79, x80, x81, x82, x83, x84, x85, x86, x87, x88, x89, x90, x91, x92, x93, x94, x95, x96, x97, x98, x99, x100, x101, x102, x103, x104, x105, x106, x107, x108, x109, x110, x111, x112, x113, x114, x115, x116, x117, x118, x119, x120, x121, x122, x123, x124, x125, x126, x127, x128, x129, x130, x131, x132, x133, x134, x135, x136, x137, x138, x139, x140, x141, x142, x143, x144, x145, x146, x147, x148, x149, x150, x151, x152, x153, x154, x155, x156, x157, x158, x159, x160, x161, x162, x163, x164, x165, x166, x167, x168, x169, x170, x171, x172, x173, x174, x175, x176, x177, x178, x179, x180, x181, x182, x183, x184, x185, x186, x187, x188, x189, x190, x191, x192, x193, x194, x195, x196, x197, x198, x199, x200, x201, x202, x203, x204, x205, x206, x207, x208, x209, x210, x211, x212, x213, x214, x215, x216, x217, x218, x219, x220, x221, x222, x223, x224, x225, x226, x227, x228, x229, x230, x231, x232, x233, x234, x235, x236, x237, x238, x239, x240, x241, x242, x243, x244, x245, x246, x247, x248, x249, x250, x251, x252, x253, x254, x255, x256, x257, x258, x259, x260, x261, x262, x263, x264, x265, x266, x267, x268, x269, x270, x271, x272, x273, x274, x275, x276, x277, x278, x279, x280, x281, x282, x283, x284, x285, x286, x287, x288, x289, x290, x291, x292, x293, x294, x295, x296, x297, x298, x299, x300, x301, x302, x303, x304, x305, x306, x307, x308, x309, x310, x311, x312, x313, x314, x315, x316, x317, x318, x319, x320, x321, x322, x323, x324, x325, x326, x327, x328, x329, x330, x331, x332, x333, x334, x335, x336, x337, x338, x339, x340, x341, x342, x343, x344, x345, x346, x347, x348, x349, x350, x351, x352, x353, x354, x355, x356, x357, x358, x359, x360, x361, x362, x363, x364, x365, x366, x367, x368, x369, x370, x371, x372, x373, x374, x375, x376, x377, x378, x379, x380, x381, x382, x383, x384, x385, x386, x387, x388], []⟩ W := by
  by_cases hq : j = s.size
  · have : (j == s.size) = true := by rw [beq_iff_eq]; exact hq
    rw [this, Bool.true_or] at hsa
    subst hsa
    exact reg42a F B b ls k3 k4 s eof j acc m sb W K Q hst hq v0 v1 x5 x8 x9 x10 x11 x13 x14 x15 x16 x17 x18 x19 x20 x21 x22 x23 x24 x25 x26 x27 x28 x29 x30 x31 x32 x33 x34 x35 x36 x37 x38 x39 x40 x41 x42 x43 x44 x45 x46 x47 x48 x49 x50 x51 x52 x53 x54 x55 x56 x57 x58 x59 x60 x61 x62 x63 x64 x65 x66 x67 x68 x69 x70 x71 x72 x73 x74 x75 x76 x77 x78 x79 x80 x81 x82 x83 x84 x85 x86 x87 x88 x89 x90 x91 x92 x93 x94 x95 x96 x97 x98 x99 x100 x101 x102 x103 x104 x105 x106 x107 x108 x109 x110 x111 x112 x113 x114 x115 x116 x117 x118 x119 x120 x121 x122 x123 x124 x125 x126 x127 x128 x129 x130 x131 x132 x133 x134 x135 x136 x137 x138 x139 x140 x141 x142 x143 x144 x145 x146 x147 x148 x149 x150 x151 x152 x153 x154 x155 x156 x157 x158 x159 x160 x161 x162 x163 x164 x165 x166 x167 x168 x169 x170 x171 x172 x173 x174 x175 x176 x177 x178 x179 x180 x181 x182 x183 x184 x185 x186 x187 x188 x189 x190 x191 x192 x193 x194 x195 x196 x197 x198 x199 x200 x201 x202 x203 x204 x205 x206 x207 x208 x209 x210 x211 x212 x213 x214 x215 x216 x217 x218 x219 x220 x221 x222 x223 x224 x225 x226 x227 x228 x229 x230 x231 x232 x233 x234 x235 x236 x237 x238 x239 x240 x241 x242 x243 x244 x245 x246 x247 x248 x249 x250 x251 x252 x253 x254 x255 x256 x257 x258 x259 x260 x261 x262 x263 x264 x265 x266 x267 x268 x269 x270 x271 x272 x273 x274 x275 x276 x277 x278 x279 x280 x281 x282 x283 x284 x285 x286 x287 x288 x289 x290 x291 x292 x293 x294 x295 x296 x297 x298 x299 x300 x301 x302 x303 x304 x305 x306 x307 x308 x309 x310 x311 x312 x313 x314 x315 x316 x317 x318 x319 x320 x321 x322 x323 x324 x325 x326 x327 x328 x329 x330 x331 x332 x333 x334 x335 x336 x337 x338 x339 x340 x341 x342 x343 x344 x345 x346 x347 x348 x349 x350 x351 x352 x353 x354 x355 x356 x357 x358 x359 x360 x361 x362 x363 x364 x365 x366 x367 x368 x369 x370 x371 x372 x373 x374 x375 x376 x377 x378 x379 x380 x381 x382 x383 x384 x385 x386 x387 x388 hK
  · have : (j == s.size) = false := by rw [beq_eq_false_iff_ne]; exact hq
    rw [this, Bool.false_or] at hsa
    exact reg42b F B b ls k3 k4 s eof j acc m sb sa W K Q hst hq hsa v0 v1 x5 x8 x9 x10 x11 x13 x14 x15 x16 x17 x18 x19 x20 x21 x22 x23 x24 x25 x26 x27 x28 x29 x30 x31 x32 x33 x34 x35 x36 x37 x38 x39 x40 x41 x42 x43 x44 x45 x46 x47 x48 x49 x50 x51 x52 x53 x54 x55 x56 x57 x58 x59 x60 x61 x62 x63 x64 x65 x66 x67 x68 x69 x70 x71 x72 x73 x74 x75 x76 x77 x78 x79 x80 x81 x82 x83 x84 x85 x86 x87 x88 x89 x90 x91 x92 x93 x94 x95 x96 x97 x98 x99 x100 x101 x102 x103 x104 x105 x106 x107 x108 x109 x110 x111 x112 x113 x114 x115 x116 x117 x118 x119 x120 x121 x122 x123 x124 x125 x126 x127 x128 x129 x130 x131 x132 x133 x134 x135 x136 x137 x138 x139 x140 x141 x142 x143 x144 x145 x146 x147 x148 x149 x150 x151 x152 x153 x154 x155 x156 x157 x158 x159 x160 x161 x162 x163 x164 x165 x166 x167 x168 x169 x170 x171 x172 x173 x174 x175 x176 x177 x178 x179 x180 x181 x182 x183 x184 x185 x186 x187 x188 x189 x190 x191 x192 x193 x194 x195 x196 x197 x198 x199 x200 x201 x202 x203 x204 x205 x206 x207 x208 x209 x210 x211 x212 x213 x214 x215 x216 x217 x218 x219 x220 x221 x222 x223 x224 x225 x226 x227 x228 x229 x230 x231 x232 x233 x234 x235 x236 x237 x238 x239 x240 x241 x242 x243 x244 x245 x246 x247 x248 x249 x250 x251 x252 x253 x254 x255 x256 x257 x258 x259 x260 x261 x262 x263 x264 x265 x266 x267 x268 x269 x270 x271 x272 x273 x274 x275 x276 x277 x278 x279 x280 x281 x282 x283 x284 x285 x286 x287 x288 x289 x290 x291 x292 x293 x294 x295 x296 x297 x298 x299 x300 x301 x302 x303 x304 x305 x306 x307 x308 x309 x310 x311 x312 x313 x314 x315 x316 x317 x318 x319 x320 x321 x322 x323 x324 x325 x326 x327 x328 x329 x330 x331 x332 x333 x334 x335 x336 x337 x338 x339 x340 x341 x342 x343 x344 x345 x346 x347 x348 x349 x350 x351 x352 x353 x354 x355 x356 x357 x358 x359 x360 x361 x362 x363 x364 x365 x366 x367 x368 x369 x370 x371 x372 x373 x374 x375 x376 x377 x378 x379 x380 x381 x382 x383 x384 x385 x386 x387 x388 hK
end Go.Proofs.YtonifkkdokaooaaFmt

/- The state of the bracket's loop in regexpNext. -/
namespace Go.Proofs.YtonifkkdokaooaaFmt
open Go.RowKit Go.Extern.Stop Go.Stop Go.Extern
set_option linter.unusedVariables false

/-- the closure literalBracket -/
abbrev cloV (kl k4 k3 : Nat) : Value := .func (.func 47) #[] #[.pointer (some ⟨kl, 0, none⟩), .pointer (some ⟨k4, 0, none⟩), .pointer (some ⟨k3, 0, none⟩)]
/-- the frame at a round's head -/
structure LF (m : Int) (k3 k4 kl g : Nat) (fil : Bool) (c : Nat) (sl : Bool) (dv cv : Value) (a : Array Value) : Prop where
  sz : a.size = 389
  s2 : a[2]? = some (.int .u64 m)
  s3 : a[3]? = some (.pointer (some ⟨k3, 0, none⟩))
  s4 : a[4]? = some (.pointer (some ⟨k4, 0, none⟩))
  s7 : a[7]? = some (.int .i32 (c : Int))
  s15 : a[15]? = some (.pointer (some ⟨kl, 0, none⟩))
  s16 : a[16]? = some (.bool fil)
  s17 : a[17]? = some (.pointer (some ⟨g, 0, none⟩))
  s18 : a[18]? = some (.bool sl)
  s19 : a[19]? = some dv
  s20 : a[20]? = some cv
  s21 : a[21]? = some (cloV kl k4 k3)
def ErrV (f : Bool) (w : World) (v : Value) : Prop := (f = true → SynErr w v) ∧ (f = false → v = .nilIface)
/-- what stands all along -/
structure BC (F : Interp) (B b ls k3 k4 kl : Nat) (s : ByteArray) (eof : Value) (acc : List UInt8) (lit : Nat) (w0 : World) : Prop where
  st : St F B b ls k3 k4 s eof lit acc w0
  kl : w0.heap[kl]? = some (.cells #[.int .i64 lit] 3 (0, 0))
  len : acc.length ≤ 100000000000000
  lit1 : 1 ≤ lit
/-- the state of the world at a round's head -/
structure BS (ls : Nat) (s : ByteArray) (w0 : World) (g : Nat) (i : Nat) (bs : List UInt8) (de ce : Bool) (dv cv : Value) (w : World) : Prop where
  kp : Kp (· = ls) w0 w
  L : Lx ls s i w
  Bg : IsB w0.heap.size g (Lib.byteCells bs) w
  hi : i ≤ s.size
  bl : bs.length ≤ 8 * i
  D : ErrV de w dv
  C : ErrV ce w cv

theorem ErrV.below {f : Bool} {w w' : World} {v : Value} (h : ErrV f w v) (k : Below w.heap.size w w') : ErrV f w' v := ⟨fun e => (h.1 e).below k, h.2⟩
theorem ErrV.lex {f : Bool} {w w' : World} {v : Value} {ls : Nat} {s : ByteArray} {i : Nat} (h : ErrV f w v) (hL : Lx ls s i w) (k : Kp (· = ls) w w') : ErrV f w' v := ⟨fun e => (h.1 e).lex hL k, h.2⟩
theorem ErrV.write {f : Bool} {w w' : World} {v : Value} {B b : Nat} {bs : List Value} (h : ErrV f w v) (hB : IsB B b bs w) (hf : Frame B b w w') : ErrV f w' v := ⟨fun e => (h.1 e).write hB hf, h.2⟩
theorem ErrV.no (w : World) : ErrV false w .nilIface := ⟨fun h => (by cases h), fun _ => rfl⟩
theorem ErrV.yes {w : World} {v : Value} (h : SynErr w v) : ErrV true w v := ⟨fun _ => h, fun h => (by cases h)⟩

section
variable {F : Interp} {B b ls k3 k4 kl : Nat} {s : ByteArray} {eof : Value} {lit : Nat} {acc : List UInt8} {w0 w w' : World} {g i : Nat} {bs : List UInt8} {de ce : Bool} {dv cv : Value}
theorem BS.st (hC : BC F B b ls k3 k4 kl s eof acc lit w0) (h : BS ls s w0 g i bs de ce dv cv w) : St F B b ls k3 k4 s eof i acc w := hC.st.lex h.L h.hi h.kp
theorem BS.klh (hC : BC F B b ls k3 k4 kl s eof acc lit w0) (h : BS ls s w0 g i bs de ce dv cv w) : w.heap[kl]? = some (.cells #[.int .i64 lit] 3 (0, 0)) :=
  h.kp.heap (heap_ne hC.kl hC.st.L (by decide)) hC.kl
theorem BS.klc (hC : BC F B b ls k3 k4 kl s eof acc lit w0) (h : BS ls s w0 g i bs de ce dv cv w) : w.cell? ⟨kl, 0, none⟩ = some (.int .i64 lit) := by rw [Lib.cell_of_heap (h.klh hC)]; rfl
theorem BS.lex {j : Nat} (h : BS ls s w0 g i bs de ce dv cv w) (hL : Lx ls s j w') (hj : j ≤ s.size) (hij : i ≤ j) (k : Kp (· = ls) w w') : BS ls s w0 g j bs de ce dv cv w' :=
  ⟨h.kp.lsls k, hL, h.Bg.lex h.L k, hj, by have := h.bl; omega, h.D.lex h.L k, h.C.lex h.L k⟩
theorem BS.below (h : BS ls s w0 g i bs de ce dv cv w) (k : Below w.heap.size w w') : BS ls s w0 g i bs de ce dv cv w' :=
  ⟨h.kp.next k, h.L.kept (X := fun _ => False) (.of_below k) id, h.Bg.below k, h.hi, h.bl, h.D.below k, h.C.below k⟩
/-- a write; the length's bound is told behind it -/
structure BSw (ls : Nat) (s : ByteArray) (w0 : World) (g : Nat) (i : Nat) (bs : List UInt8) (de ce : Bool) (dv cv : Value) (w : World) : Prop where
  kp : Kp (· = ls) w0 w
  L : Lx ls s i w
  Bg : IsB w0.heap.size g (Lib.byteCells bs) w
  hi : i ≤ s.size
  D : ErrV de w dv
  C : ErrV ce w cv
theorem BS.write {out : List UInt8} (h : BS ls s w0 g i bs de ce dv cv w) (hB : IsB w0.heap.size g (Lib.byteCells bs ++ Lib.byteCells out) w') (hf : Frame w0.heap.size g w w') : BSw ls s w0 g i (bs ++ out) de ce dv cv w' := by
  obtain ⟨hBb, _, c, hb⟩ := h.Bg.block
  refine ⟨h.kp.sub hf (Nat.le_refl _) hBb, h.L.kept hf.kp ?_, ?_, h.hi, h.D.write h.Bg hf, h.C.write h.Bg hf⟩
  · rintro (e | ⟨_, h1⟩)
    · exact heap_ne h.L hb (by decide) e
    · exact not_row h.L (by decide) h1
  · have e : Lib.byteCells (bs ++ out) = Lib.byteCells bs ++ Lib.byteCells out := by simp [Lib.byteCells]
    rw [e]; exact hB
theorem BSw.toB (h : BSw ls s w0 g i bs de ce dv cv w) (hl : bs.length ≤ 8 * i) : BS ls s w0 g i bs de ce dv cv w := ⟨h.kp, h.L, h.Bg, h.hi, hl, h.D, h.C⟩
theorem BSw.st (hC : BC F B b ls k3 k4 kl s eof acc lit w0) (h : BSw ls s w0 g i bs de ce dv cv w) : St F B b ls k3 k4 s eof i acc w := hC.st.lex h.L h.hi h.kp
theorem BSw.lex {j : Nat} (h : BSw ls s w0 g i bs de ce dv cv w) (hL : Lx ls s j w') (hj : j ≤ s.size) (hl : bs.length ≤ 8 * j) (k : Kp (· = ls) w w') : BS ls s w0 g j bs de ce dv cv w' :=
  ⟨h.kp.lsls k, hL, h.Bg.lex h.L k, hj, hl, h.D.lex h.L k, h.C.lex h.L k⟩
theorem BS.room (hC : BC F B b ls k3 k4 kl s eof acc lit w0) (h : BS ls s w0 g i bs de ce dv cv w) : (Lib.byteCells bs).length ≤ 35184372088832 := by
  have h1 := h.bl; have h2 := h.hi; have h3 := hC.st.base.hs
  simp only [Lib.byteCells, List.length_map]
  omega
theorem BS.setDe {dv' : Value} {de' : Bool} (h : BS ls s w0 g i bs de ce dv cv w) (hd : ErrV de' w dv') : BS ls s w0 g i bs de' ce dv' cv w := ⟨h.kp, h.L, h.Bg, h.hi, h.bl, hd, h.C⟩
theorem BS.setCe {cv' : Value} {ce' : Bool} (h : BS ls s w0 g i bs de ce dv cv w) (hc : ErrV ce' w cv') : BS ls s w0 g i bs de ce' dv cv' w := ⟨h.kp, h.L, h.Bg, h.hi, h.bl, h.D, hc⟩
end
/-- a return, out of whatever blocks -/
def RetQ (Q : Exit → Act → World → Prop) (Post : Ending → World → Prop) : Prop := ∀ (a : Array Value) (w : World) (v : Value), a.size = 389 → a[6]? = some v → Post (.returned v) w → Q .ret ⟨a, []⟩ w
theorem RetQ.use {Q : Exit → Act → World → Prop} {Post : Ending → World → Prop} (h : RetQ Q Post) {a : Array Value} {w : World} {v : Value} (h6 : a[6]? = some v) (hs : a.size = 389) (hp : Post (.returned v) w) : Q .ret ⟨a, []⟩ w := h a w v hs h6 hp

def loC : Code → Code | .loop b => b | c => c
noncomputable def brC : Code := thC (sq2 (elC (sq2 (elC (sq2 (elC (sq2 (elC (sq2 (blC (sq2 (sq1 restC))))))))))))
noncomputable def brN1 : Code := sq2 (sq2 (sq2 (sq2 (sq2 (sq2 (sq2 (sq2 brC)))))))
noncomputable def brN2 : Code := sq2 brN1
noncomputable def brN3 : Code := sq2 brN2
noncomputable def brLo : Code := blC (sq2 brN3)
noncomputable def brBody : Code := loC brLo
end Go.Proofs.YtonifkkdokaooaaFmt

/- Walk: the bracket's loop in regexpNext, a round by its case. Printed by gen_br.py. -/
namespace Go.Proofs.YtonifkkdokaooaaFmt
open Go.RowKit Go.Extern.Stop Go.Stop Go.Extern
set_option linter.unusedVariables false

def lst : Nat → (Nat → Value) → Nat → List Value
  | 0, _, _ => []
  | n + 1, x, k => x k :: lst n x (k + 1)
theorem lst_eq (l : List Value) (d : Value) : ∀ (n k : Nat), l.length = k + n → l.drop k = lst n (fun i => l.getD i d) k
  | 0, k, h => by simp [lst, h]
  | n + 1, k, h => by
    have hk : k < l.length := by omega
    rw [List.drop_eq_getElem_cons hk, lst, lst_eq l d n (k + 1) (by omega)]
    simp [List.getD, hk]
theorem arr_lst (a : Array Value) (n : Nat) (h : a.size = n) : ∃ x : Nat → Value, a = ⟨lst n x 0⟩ := by
  refine ⟨fun i => a.toList.getD i .nilIface, ?_⟩
  have e := lst_eq a.toList .nilIface n 0 (by simpa using h)
  rw [List.drop_zero] at e
  rw [← e]
set_option maxRecDepth 1000000 in
set_option maxHeartbeats 8000000 in
theorem lit389 (a : Array Value) (h : a.size = 389) : ∃ x : Nat → Value, a = #[x 0, x 1, x 2, x 3, x 4, x 5, x 6, x 7, x 8, x 9, x 10, x 11, x 12, x 13, x 14, x 15, x 16, x 17, x 18, x 19, x 20, x 21, x 22, x 23, x 24, x 25, x 26, x 27, x 28, x 29, x 30, x 31, x 32, x 33, x 34, x 35, x 36, x 37, x 38, x 39, x 40, x 41, x 42, x 43, x 44, x 45, x 46, x 47, x 48, x 49, x 50, x 51, x 52, x 53, x 54, x 55, x 56, x 57, x 58, x 59, x 60, x 61, x 62, x 63, x 64, x 65, x 66, x 67, x 68, x 69, x 70, x 71, x 72, x 73, x 74, x 75, x 76, x 77, x 78, x 79, x 80, x 81, x 82, x 83, x 84, x 85, x 86, x 87, x 88, x 89, x 90, x 91, x 92, x 93, x 94, x 95, x 96, x 97, x 98, x 99, x 100, x 101, x 102, x 103, x 104, x 105, x 106, x 107, x 108, x 109, x 110, x 111, x 112, x 113, x 114, x 115, x 116, x 117, x 118, x 119, x 120, x 121, x 122, x 123, x 124, x 125, x 126, x 127, x 128, x 129, x 130, x 131, x 132, x 133, x 134, x 135, x 136, x 137, x 138, x 139, x 140, x 141, x 142, x 143, x 144, x 145, x 146, x 147, x 148, x 149, x 150, x 151, x 152, x 153, x 154, x 155, x 156, x 157, x 158, x 159, x 160, x 161, x 162, x 163, x 164, x 165, x 166, x 167, x 168, x 169, x 170, x 171, x 172, x 173, x 174, x 175, x 176, x 177, x 178, x 179, x 180, x 181, x 182, x 183, x 184, x 185, x 186, x 187, x 188, x 189, x 190, x 191, x 192, x 193, x 194, x 195, x 196, x 197, x 198, x 199, x 200, x 201, x 202, x 203, x 204, x 205, x 206, x 207, x 208, x 209, x 210, x 211, x 212, x 213, x 214, x 215, x 216, x 217, x 218, x 219, x 220, x 221, x 222, x 223, x 224, x 225, x 226, x 227, x 228, x 229, x 230, x 231, x 232, x 233, x 234, x 235, x 236, x 237, x 238, x 239, x 240, x 241, x 242, x 243, x 244, x 245, x 246, x 247, x 248, x 249, x 250, x 251, x 252, x 253, x 254, x 255, x 256, x 257, x 258, x 259, x 260, x 261, x 262, x 263, x 264, x 265, x 266, x 267, x 268, x 269, x 270, x 271, x 272, x 273, x 274, x 275, x 276, x 277, x 278, x 279, x 280, x 281, x 282, x 283, x 284, x 285, x 286, x 287, x 288, x 289, x 290, x 291, x 292, x 293, x 294, x 295, x 296, x 297, x 298, x 299, x 300, x 301, x 302, x 303, x 304, x 305, x 306, x 307, x 308, x 309, x 310, x 311, x 312, x 313, x 314, x 315, x 316, x 317, x 318, x 319, x 320, x 321, x 322, x 323, x 324, x 325, x 326, x 327, x 328, x 329, x 330, x 331, x 332, x 333, x 334, x 335, x 336, x 337, x 338, x 339, x 340, x 341, x 342, x 343, x 344, x 345, x 346, x 347, x 348, x 349, x 350, x 351, x 352, x 353, x 354, x 355, x 356, x 357, x 358, x 359, x 360, x 361, x 362, x 363, x 364, x 365, x 366, x 367, x 368, x 369, x 370, x 371, x 372, x 373, x 374, x 375, x 376, x 377, x 378, x 379, x 380, x 381, x 382, x 383, x 384, x 385, x 386, x 387, x 388] := arr_lst a 389 h
set_option maxRecDepth 1000000 in
set_option maxHeartbeats 8000000 in
theorem LF.open {m : Int} {k3 k4 kl g : Nat} {fil : Bool} {c : Nat} {sl : Bool} {dv cv : Value} {a : Array Value} {C : Array Value → Prop} (h : LF m k3 k4 kl g fil c sl dv cv a)
    (hx : ∀ x : Nat → Value, C #[x 0, x 1, .int .u64 m, .pointer (some ⟨k3, 0, none⟩), .pointer (some ⟨k4, 0, none⟩), x 5, x 6, .int .i32 (c : Int), x 8, x 9, x 10, x 11, x 12, x 13, x 14, .pointer (some ⟨kl, 0, none⟩), .bool fil, .pointer (some ⟨g, 0, none⟩), .bool sl, dv, cv, cloV kl k4 k3, x 22, x 23, x 24, x 25, x 26, x 27, x 28, x 29, x 30, x 31, x 32, x 33, x 34, x 35, x 36, x 37, x 38, x 39, x 40, x 41, x 42, x 43, x 44, x 45, x 46, x 47, x 48, x 49, x 50, x 51, x 52, x 53, x 54, x 55, x 56, x 57, x 58, x 59, x 60, x 61, x 62, x 63, x 64, x 65, x 66, x 67, x 68, x 69, x 70, x 71, x 72, x 73, x 74, x 75, x 76, x 77, x 78, x 79, x 80, x 81, x 82, x 83, x 84, x 85, x 86, x 87, x 88, x 89, x 90, x 91, x 92, x 93, x 94, x 95, x 96, x 97, x 98, x 99, x 100, x 101, x 102, x 103, x 104, x 105, x 106, x 107, x 108, x 109, x 110, x 111, x 112, x 113, x 114, x 115, x 116, x 117, x 118, x 119, x 120, x 121, x 122, x 123, x 124, x 125, x 126, x 127, x 128, x 129, x 130, x 131, x 132, x 133, x 134, x 135, x 136, x 137, x 138, x 139, x 140, x 141, x 142, x 143, x 144, x 145, x 146, x 147, x 148, x 149, x 150, x 151, x 152, x 153, x 154, x 155, x 156, x 157, x 158, x 159, x 160, x 161, x 162, x 163, x 164, x 165, x 166, x 167, x 168, x 169, x 170, x 171, x 172, x 173, x 174, x 175, x 176, x 177, x 178, x 179, x 180, x 181, x 182, x 183, x 184, x 185, x 186, x 187, x 188, x 189, x 190, x 191, x 192, x 193, x 194, x 195, x 196, x 197, x 198, x 199, x 200, x 201, x 202, x 203, x 204, x 205, x 206, x 207, x 208, x 209, x 210, x 211, x 212, x 213, x 214, x 215, x 216, x 217, x 218, x 219, x 220, x 221, x 222, x 223, x 224, x 225, x 226, x 227, x 228, x 229, x 230, x 231, x 232, x 233, x 234, x 235, x 236, x 237, x 238, x 239, x 240, x 241, x 242, x 243, x 244, x 245, x 246, x 247, x 248, x 249, x 250, x 251, x 252, x 253, x 254, x 255, x 256, x 257, x 258, x 259, x 260, x 261, x 262, x 263, x 264, x 265, x 266, x 267, x 268, x 269, x 270, x 271, x 272, x 273, x 274, x 275, x 276, x 277, x 278, x 279, x 280, x 281, x 282, x 283, x 284, x 285, x 286, x 287, x 288, x 289, x 290, x 291, x 292, x 293, x 294, x 295, x 296, x 297, x 298, x 299, x 300, x 301, x 302, x 303, x 304, x 305, x 306, x 307, x 308, x 309, x 310, x 311, x 312, x 313, x 314, x 315, x 316, x 317, x 318, x 319, x 320, x 321, x 322, x 323, x 324, x 325, x 326, x 327, x 328, x 329, x 330, x 331, x 332, x 333, x 334, x 335, x 336, x 337, x 338, x 339, x 340, x 341, x 342, x 343, x 344, x 345, x 346, x 347, x 348, x 349, x 350, x 351, x 352, x 353, x 354, x 355, x 356, x 357, x 358, x 359, x 360, x 361, x 362, x 363, x 364, x 365, x 366, x 367, x 368, x 369, x 370, x 371, x 372, x 373, x 374, x 375, x 376, x 377, x 378, x 379, x 380, x 381, x 382, x 383, x 384, x 385, x 386, x 387, x 388]) : C a := by
  obtain ⟨x, rfl⟩ := lit389 a h.sz
  have h2 : x 2 = _ := Option.some.inj h.s2
  have h3 : x 3 = _ := Option.some.inj h.s3
  have h4 : x 4 = _ := Option.some.inj h.s4
  have h7 : x 7 = _ := Option.some.inj h.s7
  have h15 : x 15 = _ := Option.some.inj h.s15
  have h16 : x 16 = _ := Option.some.inj h.s16
  have h17 : x 17 = _ := Option.some.inj h.s17
  have h18 : x 18 = _ := Option.some.inj h.s18
  have h19 : x 19 = _ := Option.some.inj h.s19
  have h20 : x 20 = _ := Option.some.inj h.s20
  have h21 : x 21 = _ := Option.some.inj h.s21
  rw [h2, h3, h4, h7, h15, h16, h17, h18, h19, h20, h21]
  exact hx x
end Go.Proofs.YtonifkkdokaooaaFmt

/- Walk: the bracket's loop in regexpNext, a round by its case. Printed by gen_br.py. -/
namespace Go.Proofs.YtonifkkdokaooaaFmt
open Go.RowKit Go.Extern.Stop Go.Stop Go.Extern
set_option linter.unusedVariables false

noncomputable def nxC : Code := sq2 (blC brBody)
set_option maxRecDepth 1000000 in
set_option maxHeartbeats 8000000 in
theorem rd_next (F : Interp) (B b ls k3 k4 kl g : Nat) (s : ByteArray) (eof : Value) (lit : Nat) (acc : List UInt8) (m : Int) (fil : Bool) (w0 w : World) (c i : Nat) (bs : List UInt8) (sl de ce : Bool) (dv cv : Value) (Q : Exit → Act → World → Prop) (hC : BC F B b ls k3 k4 kl s eof acc lit w0) (hB : BS ls s w0 g i bs de ce dv cv w)
    (hK : ∀ a w', LF m k3 k4 kl g fil (nx s i).1 sl dv cv a → BS ls s w0 g (nx s i).2 bs de ce dv cv w' → Q .normal ⟨a, []⟩ w') (a : Array Value) (hF : LF m k3 k4 kl g fil c sl dv cv a) :
    Code.wp Tryf.prog nxC Q ⟨a, []⟩ w := by
  refine hF.open (C := fun a => Code.wp Tryf.prog nxC Q ⟨a, []⟩ w) fun x => ?_
  clear hF a
  have HB := Lib.hid hB
  have HK := Lib.hid hK
  obtain ⟨hj0, hj1, hj2⟩ := nx_le s i hB.hi
  obtain ⟨e3, e4, e1, e0⟩ := (hB.st hC).cells
  have HN := Lib.hid (next_any ls s i w hB.L hB.hi (by have := hC.st.base.hs; omega) (hB.st hC).base.T)
  clear hC hB hK
  conv => arg 2; whnf
  go_wp2_with fail
  refine HN.out.mono ?_
  rintro e wn ⟨rfl, hL, hk⟩
  have HE := Lib.hid (HB.out.lex hL hj1 hj0 hk)
  clear hL hk HN HB e3 e4 e1 e0
  go_wp2_with fail
  exact HK.out _ _ ⟨rfl, rfl, rfl, rfl, rfl, rfl, rfl, rfl, rfl, rfl, rfl, rfl⟩ HE.out
end Go.Proofs.YtonifkkdokaooaaFmt
