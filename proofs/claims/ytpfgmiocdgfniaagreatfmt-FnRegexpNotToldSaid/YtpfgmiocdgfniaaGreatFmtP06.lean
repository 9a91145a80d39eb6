/- Joined by pack.py: NextRs. -/
import Derived.Test.YtpfgmiocdgfniaaGreatFmtP05
set_option linter.unusedVariables false
set_option maxHeartbeats 8000000
set_option maxRecDepth 1000000
namespace Go.Proofs.YtpfgmiocdgfniaaGreatFmt
open Go.RowKit Go.Extern.Stop Go.Stop Go.Extern
theorem rest_star0 (F : Interp) (B b ls k3 k4 : Nat) (s : ByteArray) (eof : Value) (i : Nat) (acc : List UInt8) (m : Int) (md : Md) (w : World) (Post : Ending → World → Prop)
    (hst : St F B b ls k3 k4 s eof i acc w) (hm : Mo m md) (hlen : acc.length ≤ 100000000000000) (c : Nat) (hc : c = 42) (hmf : md.fil = false)
    (hP : RPost B b ls s eof acc w (rest md s c i) Post) (v0 v1 x5 x8 x9 x10 x11 x12 x13 x14 x15 x16 x17 x18 x19 x20 x21 x22 x23 x24 x25 x26 x27 x28 x29 x30 x31 x32 x33 x34 x35 x36 x37 x38 x39 x40 x41 x42 x43 x44 x45 x46 x47 x48 x49 x50 x51 x52 x53 x54 x55 x56 x57 x58 x59 x60 x61 x62 x63 x64 x65 x66 x67 x68 x69 x70 x71 x72 x73 x74 x75 x76 x77 x78 x79 x80 x81 x82 x83 x84 x85 x86 x87 x88 x89 x90 x91 x92 x93 x94 x95 x96 x97 x98 x99 x100 x101 x102 x103 x104 x105 x106 x107 x108 x109 x110 x111 x112 x113 x114 x115 x116 x117 x118 x119 x120 x121 x122 x123 x124 x125 x126 x127 x128 x129 x130 x131 x132 x133 x134 x135 x136 x137 x138 x139 x140 x141 x142 x143 x144 x145 x146 x147 x148 x149 x150 x151 x152 x153 x154 x155 x156 x157 x158 x159 x160 x161 x162 x163 x164 x165 x166 x167 x168 x169 x170 x171 x172 x173 x174 x175 x176 x177 x178 x179 x180 x181 x182 x183 x184 x185 x186 x187 x188 x189 x190 x191 x192 x193 x194 x195 x196 x197 x198 x199 x200 x201 x202 x203 x204 x205 x206 x207 x208 x209 x210 x211 x212 x213 x214 x215 x216 x217 x218 x219 x220 x221 x222 x223 x224 x225 x226 x227 x228 x229 x230 x231 x232 x233 x234 x235 x236 x237 x238 x239 x240 x241 x242 x243 x244 x245 x246 x247 x248 x249 x250 x251 x252 x253 x254 x255 x256 x257 x258 x259 x260 x261 x262 x263 x264 x265 x266 x267 x268 x269 x270 x271 x272 x273 x274 x275 x276 x277 x278 x279 x280 x281 x282 x283 x284 x285 x286 x287 x288 x289 x290 x291 x292 x293 x294 x295 x296 x297 x298 x299 x300 x301 x302 x303 x304 x305 x306 x307 x308 x309 x310 x311 x312 x313 x314 x315 x316 x317 x318 x319 x320 x321 x322 x323 x324 x325 x326 x327 x328 x329 x330 x331 x332 x333 x334 x335 x336 x337 x338 x339 x340 x341 x342 x343 x344 x345 x346 x347 x348 x349 x350 x351 x352 x353 x354 x355 x356 x357 x358 x359 x360 x361 x362 x363 x364 x365 x366 x367 x368 x369 x370 x371 x372 x373 x374 x375 x376 x377 x378 x379 x380 x381 x382 x383 x384 x385 x386 x387 x388 : Value) :
    Code.wp Tryz.prog restC (bodyPost Tryz.prog Tryz.f23 Post) ⟨#[v0, v1, .int .u64 m, .pointer (some ⟨k3, 0, none⟩), .pointer (some ⟨k4, 0, none⟩), x5, .nilIface, .int .i32 (c : Int), x8, x9, x10, x11, x12, x13, x14, x15, x16, x17, x18, x19, x20, x21, x22, x23, x24, x25, x26, x27, x28, x29, x30, x31, x32, x33, x34, x35, x36, x37, x38, x39, x40, x41, x42, x43, x44, x45, x46, x47, x48, x49, x50, x51, x52, x53, x54, x55, x56, x57, x58, x59, x60, x61, x62, x63, x64, x65, x66, x67, x68, x69, x70, x71, x72, x73, x74, x75, x76, x77, x78, x79, x80, x81, x82, x83, x84, x85, x86, x87, x88, x89, x90, x91, x92, x93, x94, x95, x96, x97, x98, x99, x100, x101, x102, x103, x104, x105, x106, x107, x108, x109, x110, x111, x112, x113, x114, x115, x116, x117, x118, x119, x120, x121, x122, x123, x124, x125, x126, x127, x128, x129, x130, x131, x132, x133, x134, x135, x136, x137, x138, x139, x140, x141, x142, x143, x144, x145, x146, x147, x148, x149, x150, x151, x152, x153, x154, x155, x156, x157, x158, x159, x160, x161, x162, x163, x164, x165, x166, x167, x168, x169, x170, x171, x172, x173, x174, x175, x176, x177, x178, x179, x180, x181, x182, x183, x184, x185, x186, x187, x188, x189, x190, x191, x192, x193, x194, x195, x196, x197, x198, x199, x200, x201, x202, x203, x204, x205, x206, x207, x208, x209, x210, x211, x212, x213, x214, x215, x216, x217, x218, x219, x220, x221, x222, x223, x224, x225, x226, x227, x228, x229, x230, x231, x232, x233, x234, x235, x236, x237, x238, x239, x240, x241, x242, x243, x244, x245, x246, x247, x248, x249, x250, x251, x252, x253, x254, x255, x256, x257, x258, x259, x260, x261, x262, x263, x264, x265, x266, x267, x268, x269, x270, x271, x272, x273, x274, x275, x276, x277, x278, x279, x280, x281, x282, x283, x284, x285, x286, x287, x288, x289, x290, x291, x292, x293, x294, x295, x296, x297, x298, x299, x300, x301, x302, x303, x304, x305, x306, x307, x308, x309, x310, x311, x312, x313, x314, x315, x316, x317, x318, x319, x320, x321, x322, x323, x324, x325, x326, x327, x328, x329, x330, x331, x332, x333, x334, x335, x336, x337, x338, x339, x340, x341, x342, x343, x344, x345, x346, x347, x348, x349, x350, x351, x352, x353, x354, x355, x356, x357, x358, x359, x360, x361, x362, x363, x364, x365, x366, x367, x368, x369, x370, x371, x372, x373, x374, x375, x376, x377, x378, x379, x380, x381, x382, x383, x384, x385, x386, x387, x388], []⟩ w := by
  subst hc
  obtain ⟨e3, e4, e1, e0⟩ := hst.cells
  have hf := hm.fil0
  rw [hmf] at hf
  have hr : rest md s 42 i = ⟨0, 0, i, [46, 42]⟩ := by simp [rest, star, hmf, dotstar]
  rw [hr] at hP
  have HW := Lib.hid (writeString_any B b (Lib.byteCells acc) ⟨#[46, 42]⟩ w hst.Bd (by simp [Lib.byteCells, ByteArray.size]; omega) hst.sz)
  have HP := Lib.hid hP
  have HS := Lib.hid hst
  clear hP hr hst hm hmf
  conv => arg 2; whnf
  go_wp2_with fail
  refine HW.out.mono ?_
  rintro e w' ⟨rfl, hB, hfr⟩
  go_wp2_with fail
  have st' := HS.out.write (out := [46, 42]) hB hfr
  exact HP.out.use st'.L st'.Bd ((Kp.refl _ _).XXwrite hfr) (err0 _ _ _ _)
theorem tail_cases (md : Md) (sb : Bool) : (sb = false ∧ stTail md sb = [91, 94, 47, 93, 42]) ∨ (sb = true ∧ md.dot = true ∧ stTail md sb = [91, 94, 47, 93, 42]) ∨ (sb = true ∧ md.dot = false ∧ stTail md sb = [40, 91, 94, 47, 46, 93, 91, 94, 47, 93, 42, 41, 63]) := by
  cases sb <;> cases h : md.dot <;> simp [stTail, h]
theorem slash_nat (n : Nat) : ((n : Int) == 47) = (n == 47) := by
  rw [Bool.eq_iff_iff]; simp; omega
theorem rest_star1 (F : Interp) (B b ls k3 k4 : Nat) (s : ByteArray) (eof : Value) (i : Nat) (acc : List UInt8) (m : Int) (md : Md) (w : World) (Post : Ending → World → Prop)
    (hst : St F B b ls k3 k4 s eof i acc w) (hm : Mo m md) (hlen : acc.length ≤ 100000000000000) (c : Nat) (hc : c = 42) (hmf : md.fil = true) (h42 : ¬ (nx s i).1 = 42)
    (hP : RPost B b ls s eof acc w (rest md s c i) Post) (v0 v1 x5 x8 x9 x10 x11 x12 x13 x14 x15 x16 x17 x18 x19 x20 x21 x22 x23 x24 x25 x26 x27 x28 x29 x30 x31 x32 x33 x34 x35 x36 x37 x38 x39 x40 x41 x42 x43 x44 x45 x46 x47 x48 x49 x50 x51 x52 x53 x54 x55 x56 x57 x58 x59 x60 x61 x62 x63 x64 x65 x66 x67 x68 x69 x70 x71 x72 x73 x74 x75 x76 x77 x78 x79 x80 x81 x82 x83 x84 x85 x86 x87 x88 x89 x90 x91 x92 x93 x94 x95 x96 x97 x98 x99 x100 x101 x102 x103 x104 x105 x106 x107 x108 x109 x110 x111 x112 x113 x114 x115 x116 x117 x118 x119 x120 x121 x122 x123 x124 x125 x126 x127 x128 x129 x130 x131 x132 x133 x134 x135 x136 x137 x138 x139 x140 x141 x142 x143 x144 x145 x146 x147 x148 x149 x150 x151 x152 x153 x154 x155 x156 x157 x158 x159 x160 x161 x162 x163 x164 x165 x166 x167 x168 x169 x170 x171 x172 x173 x174 x175 x176 x177 x178 x179 x180 x181 x182 x183 x184 x185 x186 x187 x188 x189 x190 x191 x192 x193 x194 x195 x196 x197 x198 x199 x200 x201 x202 x203 x204 x205 x206 x207 x208 x209 x210 x211 x212 x213 x214 x215 x216 x217 x218 x219 x220 x221 x222 x223 x224 x225 x226 x227 x228 x229 x230 x231 x232 x233 x234 x235 x236 x237 x238 x239 x240 x241 x242 x243 x244 x245 x246 x247 x248 x249 x250 x251 x252 x253 x254 x255 x256 x257 x258 x259 x260 x261 x262 x263 x264 x265 x266 x267 x268 x269 x270 x271 x272 x273 x274 x275 x276 x277 x278 x279 x280 x281 x282 x283 x284 x285 x286 x287 x288 x289 x290 x291 x292 x293 x294 x295 x296 x297 x298 x299 x300 x301 x302 x303 x304 x305 x306 x307 x308 x309 x310 x311 x312 x313 x314 x315 x316 x317 x318 x319 x320 x321 x322 x323 x324 x325 x326 x327 x328 x329 x330 x331 x332 x333 x334 x335 x336 x337 x338 x339 x340 x341 x342 x343 x344 x345 x346 x347 x348 x349 x350 x351 x352 x353 x354 x355 x356 x357 x358 x359 x360 x361 x362 x363 x364 x365 x366 x367 x368 x369 x370 x371 x372 x373 x374 x375 x376 x377 x378 x379 x380 x381 x382 x383 x384 x385 x386 x387 x388 : Value) :
    Code.wp Tryz.prog restC (bodyPost Tryz.prog Tryz.f23 Post) ⟨#[v0, v1, .int .u64 m, .pointer (some ⟨k3, 0, none⟩), .pointer (some ⟨k4, 0, none⟩), x5, .nilIface, .int .i32 (c : Int), x8, x9, x10, x11, x12, x13, x14, x15, x16, x17, x18, x19, x20, x21, x22, x23, x24, x25, x26, x27, x28, x29, x30, x31, x32, x33, x34, x35, x36, x37, x38, x39, x40, x41, x42, x43, x44, x45, x46, x47, x48, x49, x50, x51, x52, x53, x54, x55, x56, x57, x58, x59, x60, x61, x62, x63, x64, x65, x66, x67, x68, x69, x70, x71, x72, x73, x74, x75, x76, x77, x78, x79, x80, x81, x82, x83, x84, x85, x86, x87, x88, x89, x90, x91, x92, x93, x94, x95, x96, x97, x98, x99, x100, x101, x102, x103, x104, x105, x106, x107, x108, x109, x110, x111, x112, x113, x114, x115, x116, x117, x118, x119, x120, x121, x122, x123, x124, x125, x126, x127, x128, x129, x130, x131, x132, x133, x134, x135, x136, x137, x138, x139, x140, x141, x142, x143, x144, x145, x146, x147, x148, x149, x150, x151, x152, x153, x154, x155, x156, x157, x158, x159, x160, x161, x162, x163, x164, x165, x166, x167, x168, x169, x170, x171, x172, x173, x174, x175, x176, x177, x178, x179, x180, x181, x182, x183, x184, x185, x186, x187, x188, x189, x190, x191, x192, x193, x194, x195, x196, x197, x198, x199, x200, x201, x202, x203, x204, x205, x206, x207, x208, x209, x210, x211, x212, x213, x214, x215, x216, x217, x218, x219, x220, x221, x222, x223, x224, x225, x226, x227, x228, x229, x230, x231, x232, x233, x234, x235, x236, x237, x238, x239, x240, x241, x242, x243, x244, x245, x246, x247, x248, x249, x250, x251, x252, x253, x254, x255, x256, x257, x258, x259, x260, x261, x262, x263, x264, x265, x266, x267, x268, x269, x270, x271, x272, x273, x274, x275, x276, x277, x278, x279, x280, x281, x282, x283, x284, x285, x286, x287, x288, x289, x290, x291, x292, x293, x294, x295, x296, x297, x298, x299, x300, x301, x302, x303, x304, x305, x306, x307, x308, x309, x310, x311, x312, x313, x314, x315, x316, x317, x318, x319, x320, x321, x322, x323, x324, x325, x326, x327, x328, x329, x330, x331, x332, x333, x334, x335, x336, x337, x338, x339, x340, x341, x342, x343, x344, x345, x346, x347, x348, x349, x350, x351, x352, x353, x354, x355, x356, x357, x358, x359, x360, x361, x362, x363, x364, x365, x366, x367, x368, x369, x370, x371, x372, x373, x374, x375, x376, x377, x378, x379, x380, x381, x382, x383, x384, x385, x386, x387, x388], []⟩ w := by
  subst hc
  obtain ⟨e3, e4, e1, e0⟩ := hst.cells
  have hf := hm.fil0
  rw [hmf] at hf
  have hr : rest md s 42 i = ⟨0, 0, i, stTail md (i == 1 || lastR s i == 47)⟩ := by simp [rest, star, hmf, h42]
  rw [hr] at hP
  have HLA := Lib.hid (last_any ls s i w hst.L hst.hi (by have := hst.base.hs; omega) hst.base.T)
  have hd := hm.dot0
  have hn := hm.ngs0
  have hz : i ≤ s.size := hst.hi
  have hsz : s.size ≤ 4398046511104 := hst.base.hs
  generalize hsb : (i == 1 || lastR s i == 47) = sb at hP
  have HSB := Lib.hid hsb
  have HS := Lib.hid hst
  have HP := Lib.hid hP
  clear hP hr hst hm hsb hmf
  conv => arg 2; whnf
  go_upto_region 39 with fail
  go_cut [12] (fun v wx => v = .bool sb ∧ Below w.heap.size w wx)
  case first =>
    by_cases h1 : i = 1
    · have hsb : sb = true := by have := HSB.out; rw [h1] at this; simpa using this.symm
      subst hsb
      subst h1
      go_wp2_with fail
      go_meet
      case rel => exact ⟨rfl, Below.refl _ _⟩
    · have h1i : ((i : Int) == 1) = false := by rw [beq_eq_false_iff_ne]; omega
      have hsb : ((lastR s i : Int) == 47) = sb := by
        have := HSB.out
        rw [slash_nat, ← this]
        have h1n : (i == 1) = false := by rw [beq_eq_false_iff_ne]; exact h1
        rw [h1n]; rfl
      have h1p : ¬ (i : Int) = 1 := by omega
      go_wp2_with fail
      refine HLA.out.mono ?_
      rintro e w1 ⟨rfl, hb1⟩
      go_wp2_with fail
      go_meet
      case rel => exact ⟨rfl, hb1⟩
  case rest =>
    obtain ⟨rfl, hb⟩ := hcut
    have st1 := HS.out.below hb
    obtain ⟨f3, f4, f1, f0⟩ := st1.cells
    have HPK := Lib.hid (peekNext_any ls s i wc st1.L st1.hi (by omega) st1.base.T)
    have HS1 := Lib.hid st1
    have HK := Lib.hid (Kp.of_below hb : Kp (XX ls B b w) w wc)
    clear e3 e4 e1 e0 st1 hb HS HLA HSB hf
    · have HPn := HP
      clear HP
      have h42b : (((nx s i).1 : Int) == 42) = false := by rw [beq_eq_false_iff_ne]; omega
      generalize (nx s i).1 = c2 at *
      clear h42
      go_wp2_with fail
      refine HPK.out.mono ?_
      rintro e w1 ⟨rfl, hb1⟩
      have st2 := HS1.out.below hb1
      obtain ⟨g3, g4, g1, g0⟩ := st2.cells
      have HS2 := Lib.hid st2
      have HK2 := Lib.hid (HK.out.next hb1)
      clear f3 f4 f1 f0 st2 hb1 HS1 HK HPK
      rcases tail_cases md sb with ⟨hsbf, ht⟩ | ⟨hsbt, hdt, ht⟩ | ⟨hsbt, hdf, ht⟩
      · have HPt := Lib.hid (by have := HPn.out; rw [ht] at this; exact this)
        clear ht HPn
        subst hsbf
        go_wp2_with fail
        refine (writeString_any B b (Lib.byteCells acc) ⟨#[91, 94, 47, 93, 42]⟩ _ HS2.out.Bd (by simp [Lib.byteCells, ByteArray.size]; omega) HS2.out.sz).mono ?_
        rintro e w' ⟨rfl, hB, hfr⟩
        go_wp2_with fail
        have st' := HS2.out.write (out := [91, 94, 47, 93, 42]) hB hfr
        exact HPt.out.use st'.L st'.Bd (HK2.out.XXwrite hfr) (err0 _ _ _ _)
      · have HPt := Lib.hid (by have := HPn.out; rw [ht] at this; exact this)
        clear ht HPn
        subst hsbt
        rw [hdt] at hd
        go_wp2_with fail
        refine (writeString_any B b (Lib.byteCells acc) ⟨#[91, 94, 47, 93, 42]⟩ _ HS2.out.Bd (by simp [Lib.byteCells, ByteArray.size]; omega) HS2.out.sz).mono ?_
        rintro e w' ⟨rfl, hB, hfr⟩
        go_wp2_with fail
        have st' := HS2.out.write (out := [91, 94, 47, 93, 42]) hB hfr
        exact HPt.out.use st'.L st'.Bd (HK2.out.XXwrite hfr) (err0 _ _ _ _)
      · have HPt := Lib.hid (by have := HPn.out; rw [ht] at this; exact this)
        clear ht HPn
        subst hsbt
        rw [hdf] at hd
        go_wp2_with fail
        refine (writeString_any B b (Lib.byteCells acc) ⟨#[40, 91, 94, 47, 46, 93, 91, 94, 47, 93, 42, 41, 63]⟩ _ HS2.out.Bd (by simp [Lib.byteCells, ByteArray.size]; omega) HS2.out.sz).mono ?_
        rintro e w' ⟨rfl, hB, hfr⟩
        go_wp2_with fail
        have st' := HS2.out.write (out := [40, 91, 94, 47, 46, 93, 91, 94, 47, 93, 42, 41, 63]) hB hfr
        exact HPt.out.use st'.L st'.Bd (HK2.out.XXwrite hfr) (err0 _ _ _ _)
end Go.Proofs.YtpfgmiocdgfniaaGreatFmt
