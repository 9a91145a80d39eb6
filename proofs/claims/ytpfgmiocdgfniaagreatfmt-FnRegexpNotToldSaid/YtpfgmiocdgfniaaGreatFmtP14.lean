/- Joined by pack.py: NextRb, BrT, BrU. -/
import Derived.Test.YtpfgmiocdgfniaaGreatFmtP05
import Derived.Test.YtpfgmiocdgfniaaGreatFmtP12
import Derived.Test.YtpfgmiocdgfniaaGreatFmtP13
set_option linter.unusedVariables false
set_option maxHeartbeats 8000000
set_option maxRecDepth 1000000
namespace Go.Proofs.YtpfgmiocdgfniaaGreatFmt
open Go.RowKit Go.Extern.Stop Go.Stop Go.Extern
theorem rest_esc (F : Interp) (B b ls k3 k4 : Nat) (s : ByteArray) (eof : Value) (i : Nat) (acc : List UInt8) (m : Int) (md : Md) (w : World) (Post : Ending → World → Prop)
    (hst : St F B b ls k3 k4 s eof i acc w) (hm : Mo m md) (hlen : acc.length ≤ 100000000000000) (c : Nat) (hc : c = 92)
    (hP : RPost B b ls s eof acc w (rest md s c i) Post) (v0 v1 x5 x8 x9 x10 x11 x12 x13 x14 x15 x16 x17 x18 x19 x20 x21 x22 x23 x24 x25 x26 x27 x28 x29 x30 x31 x32 x33 x34 x35 x36 x37 x38 x39 x40 x41 x42 x43 x44 x45 x46 x47 x48 x49 x50 x51 x52 x53 x54 x55 x56 x57 x58 x59 x60 x61 x62 x63 x64 x65 x66 x67 x68 x69 x70 x71 x72 x73 x74 x75 x76 x77 x78 x79 x80 x81 x82 x83 x84 x85 x86 x87 x88 x89 x90 x91 x92 x93 x94 x95 x96 x97 x98 x99 x100 x101 x102 x103 x104 x105 x106 x107 x108 x109 x110 x111 x112 x113 x114 x115 x116 x117 x118 x119 x120 x121 x122 x123 x124 x125 x126 x127 x128 x129 x130 x131 x132 x133 x134 x135 x136 x137 x138 x139 x140 x141 x142 x143 x144 x145 x146 x147 x148 x149 x150 x151 x152 x153 x154 x155 x156 x157 x158 x159 x160 x161 x162 x163 x164 x165 x166 x167 x168 x169 x170 x171 x172 x173 x174 x175 x176 x177 x178 x179 x180 x181 x182 x183 x184 x185 x186 x187 x188 x189 x190 x191 x192 x193 x194 x195 x196 x197 x198 x199 x200 x201 x202 x203 x204 x205 x206 x207 x208 x209 x210 x211 x212 x213 x214 x215 x216 x217 x218 x219 x220 x221 x222 x223 x224 x225 x226 x227 x228 x229 x230 x231 x232 x233 x234 x235 x236 x237 x238 x239 x240 x241 x242 x243 x244 x245 x246 x247 x248 x249 x250 x251 x252 x253 x254 x255 x256 x257 x258 x259 x260 x261 x262 x263 x264 x265 x266 x267 x268 x269 x270 x271 x272 x273 x274 x275 x276 x277 x278 x279 x280 x281 x282 x283 x284 x285 x286 x287 x288 x289 x290 x291 x292 x293 x294 x295 x296 x297 x298 x299 x300 x301 x302 x303 x304 x305 x306 x307 x308 x309 x310 x311 x312 x313 x314 x315 x316 x317 x318 x319 x320 x321 x322 x323 x324 x325 x326 x327 x328 x329 x330 x331 x332 x333 x334 x335 x336 x337 x338 x339 x340 x341 x342 x343 x344 x345 x346 x347 x348 x349 x350 x351 x352 x353 x354 x355 x356 x357 x358 x359 x360 x361 x362 x363 x364 x365 x366 x367 x368 x369 x370 x371 x372 x373 x374 x375 x376 x377 x378 x379 x380 x381 x382 x383 x384 x385 x386 x387 x388 : Value) :
    Code.wp Tryz.prog restC (bodyPost Tryz.prog Tryz.f23 Post) ⟨#[v0, v1, .int .u64 m, .pointer (some ⟨k3, 0, none⟩), .pointer (some ⟨k4, 0, none⟩), x5, .nilIface, .int .i32 (c : Int), x8, x9, x10, x11, x12, x13, x14, x15, x16, x17, x18, x19, x20, x21, x22, x23, x24, x25, x26, x27, x28, x29, x30, x31, x32, x33, x34, x35, x36, x37, x38, x39, x40, x41, x42, x43, x44, x45, x46, x47, x48, x49, x50, x51, x52, x53, x54, x55, x56, x57, x58, x59, x60, x61, x62, x63, x64, x65, x66, x67, x68, x69, x70, x71, x72, x73, x74, x75, x76, x77, x78, x79, x80, x81, x82, x83, x84, x85, x86, x87, x88, x89, x90, x91, x92, x93, x94, x95, x96, x97, x98, x99, x100, x101, x102, x103, x104, x105, x106, x107, x108, x109, x110, x111, x112, x113, x114, x115, x116, x117, x118, x119, x120, x121, x122, x123, x124, x125, x126, x127, x128, x129, x130, x131, x132, x133, x134, x135, x136, x137, x138, x139, x140, x141, x142, x143, x144, x145, x146, x147, x148, x149, x150, x151, x152, x153, x154, x155, x156, x157, x158, x159, x160, x161, x162, x163, x164, x165, x166, x167, x168, x169, x170, x171, x172, x173, x174, x175, x176, x177, x178, x179, x180, x181, x182, x183, x184, x185, x186, x187, x188, x189, x190, x191, x192, x193, x194, x195, x196, x197, x198, x199, x200, x201, x202, x203, x204, x205, x206, x207, x208, x209, x210, x211, x212, x213, x214, x215, x216, x217, x218, x219, x220, x221, x222, x223, x224, x225, x226, x227, x228, x229, x230, x231, x232, x233, x234, x235, x236, x237, x238, x239, x240, x241, x242, x243, x244, x245, x246, x247, x248, x249, x250, x251, x252, x253, x254, x255, x256, x257, x258, x259, x260, x261, x262, x263, x264, x265, x266, x267, x268, x269, x270, x271, x272, x273, x274, x275, x276, x277, x278, x279, x280, x281, x282, x283, x284, x285, x286, x287, x288, x289, x290, x291, x292, x293, x294, x295, x296, x297, x298, x299, x300, x301, x302, x303, x304, x305, x306, x307, x308, x309, x310, x311, x312, x313, x314, x315, x316, x317, x318, x319, x320, x321, x322, x323, x324, x325, x326, x327, x328, x329, x330, x331, x332, x333, x334, x335, x336, x337, x338, x339, x340, x341, x342, x343, x344, x345, x346, x347, x348, x349, x350, x351, x352, x353, x354, x355, x356, x357, x358, x359, x360, x361, x362, x363, x364, x365, x366, x367, x368, x369, x370, x371, x372, x373, x374, x375, x376, x377, x378, x379, x380, x381, x382, x383, x384, x385, x386, x387, x388], []⟩ w := by
  subst hc
  obtain ⟨e3, e4, e1, e0⟩ := hst.cells
  obtain ⟨hj0, hj1, hj2⟩ := nx_le s i hst.hi
  have HN := Lib.hid (next_any ls s i w hst.L hst.hi (by have := hst.base.hs; omega) hst.base.T)
  have HS := Lib.hid hst
  by_cases hz : (nx s i).1 = 0
  · have hr : rest md s 92 i = ⟨3, 0, (nx s i).2, []⟩ := by simp [rest, hz]
    rw [hr] at hP
    have HP := Lib.hid hP
    rw [hz] at HN
    clear hP hr hst hm hz hj0 hj2
    conv => arg 2; whnf
    go_wp2_with fail
    refine HN.out.mono ?_
    rintro e w' ⟨rfl, hL, hk⟩
    have HS1 := Lib.hid (HS.out.lex hL hj1 hk)
    have HK := Lib.hid ((Kp.refl (XX ls B b w) w).XXls hk)
    clear hL hk HN
    go_wp2_with fail
    have HS2 := fun o => HS1.out.below ((Below.refl _ _).alloc (Nat.le_refl _) o)
    exact HP.out.use (HS2 _).L (by rw [List.append_nil]; exact (HS2 _).Bd) (HK.out.alloc _) (err3 ⟨_, _, .nilIface, rfl, alloc_at _ _, .inl rfl⟩)
  · have hr : rest md s 92 i = ⟨0, 0, (nx s i).2, rq (en (nx s i).1)⟩ := by simp [rest, hz]
    rw [hr] at hP
    generalize hc' : (nx s i).1 = c at *
    clear hc'
    have bz : ((c : Int) == 0) = false := by rw [beq_eq_false_iff_ne]; omega
    have HP := Lib.hid hP
    clear hP hr hst hm hz hj0
    conv => arg 2; whnf
    go_wp2_with fail
    refine HN.out.mono ?_
    rintro e w' ⟨rfl, hL, hk⟩
    have st1 := HS.out.lex hL hj1 hk
    have HK := Lib.hid ((Kp.refl (XX ls B b w) w).XXls hk)
    obtain ⟨f3, f4, f1, f0⟩ := st1.cells
    have HS1 := Lib.hid st1
    clear hL hk HN e3 e4 e1 e0 st1 HS
    go_wp2_with fail
    go_region_with (first | (go_at_call 42; refine (zzQuoteMeta_any _ _ (enc_size c)).mono ?_; rintro e w1 ⟨rfl, hb1⟩; have st2 := HS1.out.below ((Below.refl _ _).drew.trans hb1); have e31 := st2.cells.1; have HS2 := Lib.hid st2; clear st2) | (go_at_call 22; refine (writeString_any B b (Lib.byteCells acc) _ _ HS2.out.Bd (by have := rq_size c; simp only [Lib.byteCells, List.length_map]; omega) HS2.out.sz).mono ?_; rintro e w' ⟨rfl, hB, hfr⟩))
    all_goals
      go_wp2_with fail
      rw [rq_cells] at hB
      have st' := HS2.out.write (out := rq (en c)) hB hfr
      exact HP.out.use st'.L st'.Bd ((HK.out.next ((Below.refl _ _).drew.trans hb1)).XXwrite hfr) (err0 _ _ _ _)
end Go.Proofs.YtpfgmiocdgfniaaGreatFmt

namespace Go.Proofs.YtpfgmiocdgfniaaGreatFmt
open Go.RowKit Go.Extern.Stop Go.Stop Go.Extern
structure RF (m : Int) (k3 k4 c : Nat) (a : Array Value) : Prop where
  sz : a.size = 389
  s2 : a[2]? = some (.int .u64 m)
  s3 : a[3]? = some (.pointer (some ⟨k3, 0, none⟩))
  s4 : a[4]? = some (.pointer (some ⟨k4, 0, none⟩))
  s6 : a[6]? = some .nilIface
  s7 : a[7]? = some (.int .i32 (c : Int))
theorem RF.open {m : Int} {k3 k4 c : Nat} {a : Array Value} {C : Array Value → Prop} (h : RF m k3 k4 c a)
    (hx : ∀ x : Nat → Value, C #[x 0, x 1, .int .u64 m, .pointer (some ⟨k3, 0, none⟩), .pointer (some ⟨k4, 0, none⟩), x 5, .nilIface, .int .i32 (c : Int), x 8, x 9, x 10, x 11, x 12, x 13, x 14, x 15, x 16, x 17, x 18, x 19, x 20, x 21, x 22, x 23, x 24, x 25, x 26, x 27, x 28, x 29, x 30, x 31, x 32, x 33, x 34, x 35, x 36, x 37, x 38, x 39, x 40, x 41, x 42, x 43, x 44, x 45, x 46, x 47, x 48, x 49, x 50, x 51, x 52, x 53, x 54, x 55, x 56, x 57, x 58, x 59, x 60, x 61, x 62, x 63, x 64, x 65, x 66, x 67, x 68, x 69, x 70, x 71, x 72, x 73, x 74, x 75, x 76, x 77, x 78, x 79, x 80, x 81, x 82, x 83, x 84, x 85, x 86, x 87, x 88, x 89, x 90, x 91, x 92, x 93, x 94, x 95, x 96, x 97, x 98, x 99, x 100, x 101, x 102, x 103, x 104, x 105, x 106, x 107, x 108, x 109, x 110, x 111, x 112, x 113, x 114, x 115, x 116, x 117, x 118, x 119, x 120, x 121, x 122, x 123, x 124, x 125, x 126, x 127, x 128, x 129, x 130, x 131, x 132, x 133, x 134, x 135, x 136, x 137, x 138, x 139, x 140, x 141, x 142, x 143, x 144, x 145, x 146, x 147, x 148, x 149, x 150, x 151, x 152, x 153, x 154, x 155, x 156, x 157, x 158, x 159, x 160, x 161, x 162, x 163, x 164, x 165, x 166, x 167, x 168, x 169, x 170, x 171, x 172, x 173, x 174, x 175, x 176, x 177, x 178, x 179, x 180, x 181, x 182, x 183, x 184, x 185, x 186, x 187, x 188, x 189, x 190, x 191, x 192, x 193, x 194, x 195, x 196, x 197, x 198, x 199, x 200, x 201, x 202, x 203, x 204, x 205, x 206, x 207, x 208, x 209, x 210, x 211, x 212, x 213, x 214, x 215, x 216, x 217, x 218, x 219, x 220, x 221, x 222, x 223, x 224, x 225, x 226, x 227, x 228, x 229, x 230, x 231, x 232, x 233, x 234, x 235, x 236, x 237, x 238, x 239, x 240, x 241, x 242, x 243, x 244, x 245, x 246, x 247, x 248, x 249, x 250, x 251, x 252, x 253, x 254, x 255, x 256, x 257, x 258, x 259, x 260, x 261, x 262, x 263, x 264, x 265, x 266, x 267, x 268, x 269, x 270, x 271, x 272, x 273, x 274, x 275, x 276, x 277, x 278, x 279, x 280, x 281, x 282, x 283, x 284, x 285, x 286, x 287, x 288, x 289, x 290, x 291, x 292, x 293, x 294, x 295, x 296, x 297, x 298, x 299, x 300, x 301, x 302, x 303, x 304, x 305, x 306, x 307, x 308, x 309, x 310, x 311, x 312, x 313, x 314, x 315, x 316, x 317, x 318, x 319, x 320, x 321, x 322, x 323, x 324, x 325, x 326, x 327, x 328, x 329, x 330, x 331, x 332, x 333, x 334, x 335, x 336, x 337, x 338, x 339, x 340, x 341, x 342, x 343, x 344, x 345, x 346, x 347, x 348, x 349, x 350, x 351, x 352, x 353, x 354, x 355, x 356, x 357, x 358, x 359, x 360, x 361, x 362, x 363, x 364, x 365, x 366, x 367, x 368, x 369, x 370, x 371, x 372, x 373, x 374, x 375, x 376, x 377, x 378, x 379, x 380, x 381, x 382, x 383, x 384, x 385, x 386, x 387, x 388]) : C a := by
  obtain ⟨x, rfl⟩ := lit389 a h.sz
  have h2 : x 2 = _ := Option.some.inj h.s2
  have h3 : x 3 = _ := Option.some.inj h.s3
  have h4 : x 4 = _ := Option.some.inj h.s4
  have h6 : x 6 = _ := Option.some.inj h.s6
  have h7 : x 7 = _ := Option.some.inj h.s7
  rw [h2, h3, h4, h6, h7]
  exact hx x
theorem rest_br (F : Interp) (B b ls k3 k4 : Nat) (s : ByteArray) (eof : Value) (i : Nat) (acc : List UInt8) (m : Int) (md : Md) (w : World) (Post : Ending → World → Prop)
    (hst : St F B b ls k3 k4 s eof i acc w) (hm : Mo m md) (hlen : acc.length ≤ 100000000000000) (hi1 : 1 ≤ i) (hP : RPost B b ls s eof acc w (rest md s 91 i) Post) (a : Array Value) (hF : RF m k3 k4 91 a) :
    Code.wp Tryz.prog restC (bodyPost Tryz.prog Tryz.f23 Post) ⟨a, []⟩ w := by
  refine hF.open (C := fun a => Code.wp Tryz.prog restC (bodyPost Tryz.prog Tryz.f23 Post) ⟨a, []⟩ w) fun x => ?_
  clear hF a
  have hr : rest md s 91 i = brk md.fil s i := by simp [rest]
  rw [hr] at hP
  unfold brk at hP
  obtain ⟨w0, hw0⟩ : ∃ w0, w.alloc (.cells #[.int .i64 (i : Int)] 3 (0, 0)) = w0 := ⟨_, rfl⟩
  have hb0 : Below w.heap.size w w0 := by rw [← hw0]; exact (Below.refl _ _).alloc (Nat.le_refl _) _
  have hz0 : w0.heap.size = w.heap.size + 1 := by rw [← hw0]; simp
  have hC : BC F B b ls k3 k4 w.heap.size s eof acc i w0 := ⟨hst.below hb0, by rw [← hw0]; exact alloc_at _ _, hlen, hi1⟩
  have hks : Kp (XX ls B b w) w w0 := Kp.of_below hb0
  have hfr : IsB w0.heap.size (w.heap.size + 1) [] (w0.alloc (.cells #[.pointer none, .slice none 0 0] 76)) := by
    rw [← hz0]
    exact Lib.IsBuilderF.of (Lib.fresh_isBuilder 76 5 w0)
  have hL0 := hC.st.L
  have hB : BS ls s w0 (w.heap.size + 1) i [] false false .nilIface .nilIface (w0.alloc (.cells #[.pointer none, .slice none 0 0] 76)) :=
    ⟨(Kp.refl _ _).alloc _, (hC.st.below ((Below.refl _ _).alloc (Nat.le_refl _) _)).L, hfr, hst.hi, Nat.zero_le _, ErrV.no _, ErrV.no _⟩
  have hf := hm.fil1
  obtain ⟨e3, e4, e1, e0⟩ := hst.cells
  have HC := Lib.hid hC
  have HB := Lib.hid hB
  have HKS := Lib.hid hks
  have HW0 := Lib.hid hw0
  have HP := Lib.hid hP
  have hbs := hC.st.base.hs
  have HW := Lib.hid (writeByte_any w0.heap.size (w.heap.size + 1) (Lib.byteCells []) 91 _ hB.Bg (by simp [Lib.byteCells]) hB.kp.size)
  rw [← hw0] at HW
  clear hst hm hP hr hC hB hks hfr hL0 hb0 hz0 hw0
  conv => arg 2; whnf
  go_wp2_with fail
  refine HW.out.mono ?_
  rintro e w1 ⟨rfl, hB1, hf1⟩
  rw [HW0.out] at hB1 hf1
  have HB1 := Lib.hid ((HB.out.write (out := [91]) hB1 hf1).toB (by simp only [List.length_append, List.length_cons, List.length_nil]; omega))
  clear hB1 hf1 HW HB e3 e4 e1 e0 HW0
  go_upto_region 74 with fail
  rename_i K4 hK4 K2 hK2 K1 hK1
  have H4 := Lib.hid hK4
  have H2 := Lib.hid hK2
  clear hK4 hK2
  have hQ : RetQ (Exit.inBlock 4 (Exit.then K4 (bodyPost Tryz.prog Tryz.f23 Post))) Post := by
    intro a w v h1 h2 h3
    exact bodyPost_ret (v := v) (by simp [results, Tryz.results23, go_sem, h2]) rfl h3
  have HQ := Lib.hid hQ
  clear hQ
  by_cases hz : (nx s i).1 = 0
  · have HP' := HP.out
    rw [if_pos hz] at HP'
    clear HP
    have HP := Lib.hid HP'
    clear HP'
    have st2 := HB1.out.st HC.out
    obtain ⟨p23, p24, p21, p20⟩ := (st2).cells
    have HN2 := Lib.hid (next_any ls s i w1 st2.L st2.hi (by have := st2.base.hs; omega) st2.base.T)
    obtain ⟨ha2, hb2, hc2⟩ := nx_le s i st2.hi
    rw [hz] at HN2
    clear hz
    clear st2
    go_wp2_with fail
    refine HN2.out.mono ?_
    rintro e w2 ⟨rfl, hL2, hk2⟩
    have HB2 := Lib.hid (HB1.out.lex hL2 hb2 ha2 hk2)
    clear hL2 hk2 HN2 p23 p24 p21 p20
    have HLB := Lib.hid (litB_any F B b ls k3 k4 _ s eof _ i acc w2 (HB2.out.st HC.out) (HB2.out.klc HC.out) HC.out.st.hi HC.out.len)
    have HKS2 := Lib.hid (HKS.out.XXls HB2.out.kp)
    go_wp2_with fail
    refine HLB.out.mono ?_
    rintro e wl ⟨rfl, hsl, hkl⟩
    have HE := Lib.hid (HP.out.use hsl.L hsl.Bd (HKS2.out.XXcall hkl) (err0 _ _ _ _))
    clear hsl hkl HLB HKS2
    go_wp2_with fail
    exact HE.out
  · have HP' := HP.out
    rw [if_neg hz] at HP'
    obtain ⟨hq1, hq2⟩ := nx_adv s i hz
    have bz : (((nx s i).1 : Int) == 0) = false := by rw [beq_eq_false_iff_ne]; omega
    have HZ := Lib.hid hz
    clear hz
    have st2 := HB1.out.st HC.out
    obtain ⟨p23, p24, p21, p20⟩ := (st2).cells
    have HN2 := Lib.hid (next_any ls s i w1 st2.L st2.hi (by have := st2.base.hs; omega) st2.base.T)
    obtain ⟨ha2, hb2, hc2⟩ := nx_le s i st2.hi
    clear st2
    go_wp2_with fail
    refine HN2.out.mono ?_
    rintro e w2 ⟨rfl, hL2, hk2⟩
    have HB2 := Lib.hid (HB1.out.lex hL2 hb2 ha2 hk2)
    clear hL2 hk2 HN2 p23 p24 p21 p20
    go_wp2_with fail
    refine H2.out _ _ ?_
    exact br1_any F B b ls k3 k4 w.heap.size (w.heap.size + 1) s eof i acc m md.fil w0 w Post _ HC.out HKS.out HQ.out _ _ _ _ ⟨rfl, rfl, rfl, rfl, rfl, rfl, rfl, rfl, rfl, rfl, rfl, rfl⟩ HB2.out HZ.out hc2 (by omega) (by omega) HP'
end Go.Proofs.YtpfgmiocdgfniaaGreatFmt

namespace Go.Proofs.YtpfgmiocdgfniaaGreatFmt
open Go.RowKit Go.Extern.Stop Go.Stop Go.Extern
theorem rest_all (F : Interp) (B b ls k3 k4 : Nat) (s : ByteArray) (eof : Value) (i : Nat) (acc : List UInt8) (m : Int) (md : Md) (w : World) (Post : Ending → World → Prop)
    (hst : St F B b ls k3 k4 s eof i acc w) (hm : Mo m md) (hlen : acc.length ≤ 100000000000000) (c : Nat) (hc : c ≤ 1114111) (hi1 : c ≠ 0 → 1 ≤ i) (hP : RPost B b ls s eof acc w (rest md s c i) Post) (a : Array Value) (hF : RF m k3 k4 c a) :
    Code.wp Tryz.prog restC (bodyPost Tryz.prog Tryz.f23 Post) ⟨a, []⟩ w := by
  by_cases h91 : c = 91
  · subst h91
    exact rest_br F B b ls k3 k4 s eof i acc m md w Post hst hm hlen (hi1 (by omega)) hP a hF
  refine hF.open (C := fun a => Code.wp Tryz.prog restC (bodyPost Tryz.prog Tryz.f23 Post) ⟨a, []⟩ w) fun x => ?_
  by_cases h0 : c = 0
  · exact rest_nul F B b ls k3 k4 s eof i acc m md w Post hst hm hlen c h0 hP (x 0) (x 1) (x 5) (x 8) (x 9) (x 10) (x 11) (x 12) (x 13) (x 14) (x 15) (x 16) (x 17) (x 18) (x 19) (x 20) (x 21) (x 22) (x 23) (x 24) (x 25) (x 26) (x 27) (x 28) (x 29) (x 30) (x 31) (x 32) (x 33) (x 34) (x 35) (x 36) (x 37) (x 38) (x 39) (x 40) (x 41) (x 42) (x 43) (x 44) (x 45) (x 46) (x 47) (x 48) (x 49) (x 50) (x 51) (x 52) (x 53) (x 54) (x 55) (x 56) (x 57) (x 58) (x 59) (x 60) (x 61) (x 62) (x 63) (x 64) (x 65) (x 66) (x 67) (x 68) (x 69) (x 70) (x 71) (x 72) (x 73) (x 74) (x 75) (x 76) (x 77) (x 78) (x 79) (x 80) (x 81) (x 82) (x 83) (x 84) (x 85) (x 86) (x 87) (x 88) (x 89) (x 90) (x 91) (x 92) (x 93) (x 94) (x 95) (x 96) (x 97) (x 98) (x 99) (x 100) (x 101) (x 102) (x 103) (x 104) (x 105) (x 106) (x 107) (x 108) (x 109) (x 110) (x 111) (x 112) (x 113) (x 114) (x 115) (x 116) (x 117) (x 118) (x 119) (x 120) (x 121) (x 122) (x 123) (x 124) (x 125) (x 126) (x 127) (x 128) (x 129) (x 130) (x 131) (x 132) (x 133) (x 134) (x 135) (x 136) (x 137) (x 138) (x 139) (x 140) (x 141) (x 142) (x 143) (x 144) (x 145) (x 146) (x 147) (x 148) (x 149) (x 150) (x 151) (x 152) (x 153) (x 154) (x 155) (x 156) (x 157) (x 158) (x 159) (x 160) (x 161) (x 162) (x 163) (x 164) (x 165) (x 166) (x 167) (x 168) (x 169) (x 170) (x 171) (x 172) (x 173) (x 174) (x 175) (x 176) (x 177) (x 178) (x 179) (x 180) (x 181) (x 182) (x 183) (x 184) (x 185) (x 186) (x 187) (x 188) (x 189) (x 190) (x 191) (x 192) (x 193) (x 194) (x 195) (x 196) (x 197) (x 198) (x 199) (x 200) (x 201) (x 202) (x 203) (x 204) (x 205) (x 206) (x 207) (x 208) (x 209) (x 210) (x 211) (x 212) (x 213) (x 214) (x 215) (x 216) (x 217) (x 218) (x 219) (x 220) (x 221) (x 222) (x 223) (x 224) (x 225) (x 226) (x 227) (x 228) (x 229) (x 230) (x 231) (x 232) (x 233) (x 234) (x 235) (x 236) (x 237) (x 238) (x 239) (x 240) (x 241) (x 242) (x 243) (x 244) (x 245) (x 246) (x 247) (x 248) (x 249) (x 250) (x 251) (x 252) (x 253) (x 254) (x 255) (x 256) (x 257) (x 258) (x 259) (x 260) (x 261) (x 262) (x 263) (x 264) (x 265) (x 266) (x 267) (x 268) (x 269) (x 270) (x 271) (x 272) (x 273) (x 274) (x 275) (x 276) (x 277) (x 278) (x 279) (x 280) (x 281) (x 282) (x 283) (x 284) (x 285) (x 286) (x 287) (x 288) (x 289) (x 290) (x 291) (x 292) (x 293) (x 294) (x 295) (x 296) (x 297) (x 298) (x 299) (x 300) (x 301) (x 302) (x 303) (x 304) (x 305) (x 306) (x 307) (x 308) (x 309) (x 310) (x 311) (x 312) (x 313) (x 314) (x 315) (x 316) (x 317) (x 318) (x 319) (x 320) (x 321) (x 322) (x 323) (x 324) (x 325) (x 326) (x 327) (x 328) (x 329) (x 330) (x 331) (x 332) (x 333) (x 334) (x 335) (x 336) (x 337) (x 338) (x 339) (x 340) (x 341) (x 342) (x 343) (x 344) (x 345) (x 346) (x 347) (x 348) (x 349) (x 350) (x 351) (x 352) (x 353) (x 354) (x 355) (x 356) (x 357) (x 358) (x 359) (x 360) (x 361) (x 362) (x 363) (x 364) (x 365) (x 366) (x 367) (x 368) (x 369) (x 370) (x 371) (x 372) (x 373) (x 374) (x 375) (x 376) (x 377) (x 378) (x 379) (x 380) (x 381) (x 382) (x 383) (x 384) (x 385) (x 386) (x 387) (x 388)
  by_cases h42 : c = 42
  · cases hmf : md.fil with
    | false => exact rest_star0 F B b ls k3 k4 s eof i acc m md w Post hst hm hlen c h42 hmf hP (x 0) (x 1) (x 5) (x 8) (x 9) (x 10) (x 11) (x 12) (x 13) (x 14) (x 15) (x 16) (x 17) (x 18) (x 19) (x 20) (x 21) (x 22) (x 23) (x 24) (x 25) (x 26) (x 27) (x 28) (x 29) (x 30) (x 31) (x 32) (x 33) (x 34) (x 35) (x 36) (x 37) (x 38) (x 39) (x 40) (x 41) (x 42) (x 43) (x 44) (x 45) (x 46) (x 47) (x 48) (x 49) (x 50) (x 51) (x 52) (x 53) (x 54) (x 55) (x 56) (x 57) (x 58) (x 59) (x 60) (x 61) (x 62) (x 63) (x 64) (x 65) (x 66) (x 67) (x 68) (x 69) (x 70) (x 71) (x 72) (x 73) (x 74) (x 75) (x 76) (x 77) (x 78) (x 79) (x 80) (x 81) (x 82) (x 83) (x 84) (x 85) (x 86) (x 87) (x 88) (x 89) (x 90) (x 91) (x 92) (x 93) (x 94) (x 95) (x 96) (x 97) (x 98) (x 99) (x 100) (x 101) (x 102) (x 103) (x 104) (x 105) (x 106) (x 107) (x 108) (x 109) (x 110) (x 111) (x 112) (x 113) (x 114) (x 115) (x 116) (x 117) (x 118) (x 119) (x 120) (x 121) (x 122) (x 123) (x 124) (x 125) (x 126) (x 127) (x 128) (x 129) (x 130) (x 131) (x 132) (x 133) (x 134) (x 135) (x 136) (x 137) (x 138) (x 139) (x 140) (x 141) (x 142) (x 143) (x 144) (x 145) (x 146) (x 147) (x 148) (x 149) (x 150) (x 151) (x 152) (x 153) (x 154) (x 155) (x 156) (x 157) (x 158) (x 159) (x 160) (x 161) (x 162) (x 163) (x 164) (x 165) (x 166) (x 167) (x 168) (x 169) (x 170) (x 171) (x 172) (x 173) (x 174) (x 175) (x 176) (x 177) (x 178) (x 179) (x 180) (x 181) (x 182) (x 183) (x 184) (x 185) (x 186) (x 187) (x 188) (x 189) (x 190) (x 191) (x 192) (x 193) (x 194) (x 195) (x 196) (x 197) (x 198) (x 199) (x 200) (x 201) (x 202) (x 203) (x 204) (x 205) (x 206) (x 207) (x 208) (x 209) (x 210) (x 211) (x 212) (x 213) (x 214) (x 215) (x 216) (x 217) (x 218) (x 219) (x 220) (x 221) (x 222) (x 223) (x 224) (x 225) (x 226) (x 227) (x 228) (x 229) (x 230) (x 231) (x 232) (x 233) (x 234) (x 235) (x 236) (x 237) (x 238) (x 239) (x 240) (x 241) (x 242) (x 243) (x 244) (x 245) (x 246) (x 247) (x 248) (x 249) (x 250) (x 251) (x 252) (x 253) (x 254) (x 255) (x 256) (x 257) (x 258) (x 259) (x 260) (x 261) (x 262) (x 263) (x 264) (x 265) (x 266) (x 267) (x 268) (x 269) (x 270) (x 271) (x 272) (x 273) (x 274) (x 275) (x 276) (x 277) (x 278) (x 279) (x 280) (x 281) (x 282) (x 283) (x 284) (x 285) (x 286) (x 287) (x 288) (x 289) (x 290) (x 291) (x 292) (x 293) (x 294) (x 295) (x 296) (x 297) (x 298) (x 299) (x 300) (x 301) (x 302) (x 303) (x 304) (x 305) (x 306) (x 307) (x 308) (x 309) (x 310) (x 311) (x 312) (x 313) (x 314) (x 315) (x 316) (x 317) (x 318) (x 319) (x 320) (x 321) (x 322) (x 323) (x 324) (x 325) (x 326) (x 327) (x 328) (x 329) (x 330) (x 331) (x 332) (x 333) (x 334) (x 335) (x 336) (x 337) (x 338) (x 339) (x 340) (x 341) (x 342) (x 343) (x 344) (x 345) (x 346) (x 347) (x 348) (x 349) (x 350) (x 351) (x 352) (x 353) (x 354) (x 355) (x 356) (x 357) (x 358) (x 359) (x 360) (x 361) (x 362) (x 363) (x 364) (x 365) (x 366) (x 367) (x 368) (x 369) (x 370) (x 371) (x 372) (x 373) (x 374) (x 375) (x 376) (x 377) (x 378) (x 379) (x 380) (x 381) (x 382) (x 383) (x 384) (x 385) (x 386) (x 387) (x 388)
    | true =>
      by_cases hn : (nx s i).1 = 42
      · exact rest_star2 F B b ls k3 k4 s eof i acc m md w Post hst hm hlen c h42 hmf hn hP (x 0) (x 1) (x 5) (x 8) (x 9) (x 10) (x 11) (x 12) (x 13) (x 14) (x 15) (x 16) (x 17) (x 18) (x 19) (x 20) (x 21) (x 22) (x 23) (x 24) (x 25) (x 26) (x 27) (x 28) (x 29) (x 30) (x 31) (x 32) (x 33) (x 34) (x 35) (x 36) (x 37) (x 38) (x 39) (x 40) (x 41) (x 42) (x 43) (x 44) (x 45) (x 46) (x 47) (x 48) (x 49) (x 50) (x 51) (x 52) (x 53) (x 54) (x 55) (x 56) (x 57) (x 58) (x 59) (x 60) (x 61) (x 62) (x 63) (x 64) (x 65) (x 66) (x 67) (x 68) (x 69) (x 70) (x 71) (x 72) (x 73) (x 74) (x 75) (x 76) (x 77) (x 78) (x 79) (x 80) (x 81) (x 82) (x 83) (x 84) (x 85) (x 86) (x 87) (x 88) (x 89) (x 90) (x 91) (x 92) (x 93) (x 94) (x 95) (x 96) (x 97) (x 98) (x 99) (x 100) (x 101) (x 102) (x 103) (x 104) (x 105) (x 106) (x 107) (x 108) (x 109) (x 110) (x 111) (x 112) (x 113) (x 114) (x 115) (x 116) (x 117) (x 118) (x 119) (x 120) (x 121) (x 122) (x 123) (x 124) (x 125) (x 126) (x 127) (x 128) (x 129) (x 130) (x 131) (x 132) (x 133) (x 134) (x 135) (x 136) (x 137) (x 138) (x 139) (x 140) (x 141) (x 142) (x 143) (x 144) (x 145) (x 146) (x 147) (x 148) (x 149) (x 150) (x 151) (x 152) (x 153) (x 154) (x 155) (x 156) (x 157) (x 158) (x 159) (x 160) (x 161) (x 162) (x 163) (x 164) (x 165) (x 166) (x 167) (x 168) (x 169) (x 170) (x 171) (x 172) (x 173) (x 174) (x 175) (x 176) (x 177) (x 178) (x 179) (x 180) (x 181) (x 182) (x 183) (x 184) (x 185) (x 186) (x 187) (x 188) (x 189) (x 190) (x 191) (x 192) (x 193) (x 194) (x 195) (x 196) (x 197) (x 198) (x 199) (x 200) (x 201) (x 202) (x 203) (x 204) (x 205) (x 206) (x 207) (x 208) (x 209) (x 210) (x 211) (x 212) (x 213) (x 214) (x 215) (x 216) (x 217) (x 218) (x 219) (x 220) (x 221) (x 222) (x 223) (x 224) (x 225) (x 226) (x 227) (x 228) (x 229) (x 230) (x 231) (x 232) (x 233) (x 234) (x 235) (x 236) (x 237) (x 238) (x 239) (x 240) (x 241) (x 242) (x 243) (x 244) (x 245) (x 246) (x 247) (x 248) (x 249) (x 250) (x 251) (x 252) (x 253) (x 254) (x 255) (x 256) (x 257) (x 258) (x 259) (x 260) (x 261) (x 262) (x 263) (x 264) (x 265) (x 266) (x 267) (x 268) (x 269) (x 270) (x 271) (x 272) (x 273) (x 274) (x 275) (x 276) (x 277) (x 278) (x 279) (x 280) (x 281) (x 282) (x 283) (x 284) (x 285) (x 286) (x 287) (x 288) (x 289) (x 290) (x 291) (x 292) (x 293) (x 294) (x 295) (x 296) (x 297) (x 298) (x 299) (x 300) (x 301) (x 302) (x 303) (x 304) (x 305) (x 306) (x 307) (x 308) (x 309) (x 310) (x 311) (x 312) (x 313) (x 314) (x 315) (x 316) (x 317) (x 318) (x 319) (x 320) (x 321) (x 322) (x 323) (x 324) (x 325) (x 326) (x 327) (x 328) (x 329) (x 330) (x 331) (x 332) (x 333) (x 334) (x 335) (x 336) (x 337) (x 338) (x 339) (x 340) (x 341) (x 342) (x 343) (x 344) (x 345) (x 346) (x 347) (x 348) (x 349) (x 350) (x 351) (x 352) (x 353) (x 354) (x 355) (x 356) (x 357) (x 358) (x 359) (x 360) (x 361) (x 362) (x 363) (x 364) (x 365) (x 366) (x 367) (x 368) (x 369) (x 370) (x 371) (x 372) (x 373) (x 374) (x 375) (x 376) (x 377) (x 378) (x 379) (x 380) (x 381) (x 382) (x 383) (x 384) (x 385) (x 386) (x 387) (x 388)
      · exact rest_star1 F B b ls k3 k4 s eof i acc m md w Post hst hm hlen c h42 hmf hn hP (x 0) (x 1) (x 5) (x 8) (x 9) (x 10) (x 11) (x 12) (x 13) (x 14) (x 15) (x 16) (x 17) (x 18) (x 19) (x 20) (x 21) (x 22) (x 23) (x 24) (x 25) (x 26) (x 27) (x 28) (x 29) (x 30) (x 31) (x 32) (x 33) (x 34) (x 35) (x 36) (x 37) (x 38) (x 39) (x 40) (x 41) (x 42) (x 43) (x 44) (x 45) (x 46) (x 47) (x 48) (x 49) (x 50) (x 51) (x 52) (x 53) (x 54) (x 55) (x 56) (x 57) (x 58) (x 59) (x 60) (x 61) (x 62) (x 63) (x 64) (x 65) (x 66) (x 67) (x 68) (x 69) (x 70) (x 71) (x 72) (x 73) (x 74) (x 75) (x 76) (x 77) (x 78) (x 79) (x 80) (x 81) (x 82) (x 83) (x 84) (x 85) (x 86) (x 87) (x 88) (x 89) (x 90) (x 91) (x 92) (x 93) (x 94) (x 95) (x 96) (x 97) (x 98) (x 99) (x 100) (x 101) (x 102) (x 103) (x 104) (x 105) (x 106) (x 107) (x 108) (x 109) (x 110) (x 111) (x 112) (x 113) (x 114) (x 115) (x 116) (x 117) (x 118) (x 119) (x 120) (x 121) (x 122) (x 123) (x 124) (x 125) (x 126) (x 127) (x 128) (x 129) (x 130) (x 131) (x 132) (x 133) (x 134) (x 135) (x 136) (x 137) (x 138) (x 139) (x 140) (x 141) (x 142) (x 143) (x 144) (x 145) (x 146) (x 147) (x 148) (x 149) (x 150) (x 151) (x 152) (x 153) (x 154) (x 155) (x 156) (x 157) (x 158) (x 159) (x 160) (x 161) (x 162) (x 163) (x 164) (x 165) (x 166) (x 167) (x 168) (x 169) (x 170) (x 171) (x 172) (x 173) (x 174) (x 175) (x 176) (x 177) (x 178) (x 179) (x 180) (x 181) (x 182) (x 183) (x 184) (x 185) (x 186) (x 187) (x 188) (x 189) (x 190) (x 191) (x 192) (x 193) (x 194) (x 195) (x 196) (x 197) (x 198) (x 199) (x 200) (x 201) (x 202) (x 203) (x 204) (x 205) (x 206) (x 207) (x 208) (x 209) (x 210) (x 211) (x 212) (x 213) (x 214) (x 215) (x 216) (x 217) (x 218) (x 219) (x 220) (x 221) (x 222) (x 223) (x 224) (x 225) (x 226) (x 227) (x 228) (x 229) (x 230) (x 231) (x 232) (x 233) (x 234) (x 235) (x 236) (x 237) (x 238) (x 239) (x 240) (x 241) (x 242) (x 243) (x 244) (x 245) (x 246) (x 247) (x 248) (x 249) (x 250) (x 251) (x 252) (x 253) (x 254) (x 255) (x 256) (x 257) (x 258) (x 259) (x 260) (x 261) (x 262) (x 263) (x 264) (x 265) (x 266) (x 267) (x 268) (x 269) (x 270) (x 271) (x 272) (x 273) (x 274) (x 275) (x 276) (x 277) (x 278) (x 279) (x 280) (x 281) (x 282) (x 283) (x 284) (x 285) (x 286) (x 287) (x 288) (x 289) (x 290) (x 291) (x 292) (x 293) (x 294) (x 295) (x 296) (x 297) (x 298) (x 299) (x 300) (x 301) (x 302) (x 303) (x 304) (x 305) (x 306) (x 307) (x 308) (x 309) (x 310) (x 311) (x 312) (x 313) (x 314) (x 315) (x 316) (x 317) (x 318) (x 319) (x 320) (x 321) (x 322) (x 323) (x 324) (x 325) (x 326) (x 327) (x 328) (x 329) (x 330) (x 331) (x 332) (x 333) (x 334) (x 335) (x 336) (x 337) (x 338) (x 339) (x 340) (x 341) (x 342) (x 343) (x 344) (x 345) (x 346) (x 347) (x 348) (x 349) (x 350) (x 351) (x 352) (x 353) (x 354) (x 355) (x 356) (x 357) (x 358) (x 359) (x 360) (x 361) (x 362) (x 363) (x 364) (x 365) (x 366) (x 367) (x 368) (x 369) (x 370) (x 371) (x 372) (x 373) (x 374) (x 375) (x 376) (x 377) (x 378) (x 379) (x 380) (x 381) (x 382) (x 383) (x 384) (x 385) (x 386) (x 387) (x 388)
  by_cases h63 : c = 63
  · exact rest_any F B b ls k3 k4 s eof i acc m md w Post hst hm hlen c h63 hP (x 0) (x 1) (x 5) (x 8) (x 9) (x 10) (x 11) (x 12) (x 13) (x 14) (x 15) (x 16) (x 17) (x 18) (x 19) (x 20) (x 21) (x 22) (x 23) (x 24) (x 25) (x 26) (x 27) (x 28) (x 29) (x 30) (x 31) (x 32) (x 33) (x 34) (x 35) (x 36) (x 37) (x 38) (x 39) (x 40) (x 41) (x 42) (x 43) (x 44) (x 45) (x 46) (x 47) (x 48) (x 49) (x 50) (x 51) (x 52) (x 53) (x 54) (x 55) (x 56) (x 57) (x 58) (x 59) (x 60) (x 61) (x 62) (x 63) (x 64) (x 65) (x 66) (x 67) (x 68) (x 69) (x 70) (x 71) (x 72) (x 73) (x 74) (x 75) (x 76) (x 77) (x 78) (x 79) (x 80) (x 81) (x 82) (x 83) (x 84) (x 85) (x 86) (x 87) (x 88) (x 89) (x 90) (x 91) (x 92) (x 93) (x 94) (x 95) (x 96) (x 97) (x 98) (x 99) (x 100) (x 101) (x 102) (x 103) (x 104) (x 105) (x 106) (x 107) (x 108) (x 109) (x 110) (x 111) (x 112) (x 113) (x 114) (x 115) (x 116) (x 117) (x 118) (x 119) (x 120) (x 121) (x 122) (x 123) (x 124) (x 125) (x 126) (x 127) (x 128) (x 129) (x 130) (x 131) (x 132) (x 133) (x 134) (x 135) (x 136) (x 137) (x 138) (x 139) (x 140) (x 141) (x 142) (x 143) (x 144) (x 145) (x 146) (x 147) (x 148) (x 149) (x 150) (x 151) (x 152) (x 153) (x 154) (x 155) (x 156) (x 157) (x 158) (x 159) (x 160) (x 161) (x 162) (x 163) (x 164) (x 165) (x 166) (x 167) (x 168) (x 169) (x 170) (x 171) (x 172) (x 173) (x 174) (x 175) (x 176) (x 177) (x 178) (x 179) (x 180) (x 181) (x 182) (x 183) (x 184) (x 185) (x 186) (x 187) (x 188) (x 189) (x 190) (x 191) (x 192) (x 193) (x 194) (x 195) (x 196) (x 197) (x 198) (x 199) (x 200) (x 201) (x 202) (x 203) (x 204) (x 205) (x 206) (x 207) (x 208) (x 209) (x 210) (x 211) (x 212) (x 213) (x 214) (x 215) (x 216) (x 217) (x 218) (x 219) (x 220) (x 221) (x 222) (x 223) (x 224) (x 225) (x 226) (x 227) (x 228) (x 229) (x 230) (x 231) (x 232) (x 233) (x 234) (x 235) (x 236) (x 237) (x 238) (x 239) (x 240) (x 241) (x 242) (x 243) (x 244) (x 245) (x 246) (x 247) (x 248) (x 249) (x 250) (x 251) (x 252) (x 253) (x 254) (x 255) (x 256) (x 257) (x 258) (x 259) (x 260) (x 261) (x 262) (x 263) (x 264) (x 265) (x 266) (x 267) (x 268) (x 269) (x 270) (x 271) (x 272) (x 273) (x 274) (x 275) (x 276) (x 277) (x 278) (x 279) (x 280) (x 281) (x 282) (x 283) (x 284) (x 285) (x 286) (x 287) (x 288) (x 289) (x 290) (x 291) (x 292) (x 293) (x 294) (x 295) (x 296) (x 297) (x 298) (x 299) (x 300) (x 301) (x 302) (x 303) (x 304) (x 305) (x 306) (x 307) (x 308) (x 309) (x 310) (x 311) (x 312) (x 313) (x 314) (x 315) (x 316) (x 317) (x 318) (x 319) (x 320) (x 321) (x 322) (x 323) (x 324) (x 325) (x 326) (x 327) (x 328) (x 329) (x 330) (x 331) (x 332) (x 333) (x 334) (x 335) (x 336) (x 337) (x 338) (x 339) (x 340) (x 341) (x 342) (x 343) (x 344) (x 345) (x 346) (x 347) (x 348) (x 349) (x 350) (x 351) (x 352) (x 353) (x 354) (x 355) (x 356) (x 357) (x 358) (x 359) (x 360) (x 361) (x 362) (x 363) (x 364) (x 365) (x 366) (x 367) (x 368) (x 369) (x 370) (x 371) (x 372) (x 373) (x 374) (x 375) (x 376) (x 377) (x 378) (x 379) (x 380) (x 381) (x 382) (x 383) (x 384) (x 385) (x 386) (x 387) (x 388)
  by_cases h92 : c = 92
  · exact rest_esc F B b ls k3 k4 s eof i acc m md w Post hst hm hlen c h92 hP (x 0) (x 1) (x 5) (x 8) (x 9) (x 10) (x 11) (x 12) (x 13) (x 14) (x 15) (x 16) (x 17) (x 18) (x 19) (x 20) (x 21) (x 22) (x 23) (x 24) (x 25) (x 26) (x 27) (x 28) (x 29) (x 30) (x 31) (x 32) (x 33) (x 34) (x 35) (x 36) (x 37) (x 38) (x 39) (x 40) (x 41) (x 42) (x 43) (x 44) (x 45) (x 46) (x 47) (x 48) (x 49) (x 50) (x 51) (x 52) (x 53) (x 54) (x 55) (x 56) (x 57) (x 58) (x 59) (x 60) (x 61) (x 62) (x 63) (x 64) (x 65) (x 66) (x 67) (x 68) (x 69) (x 70) (x 71) (x 72) (x 73) (x 74) (x 75) (x 76) (x 77) (x 78) (x 79) (x 80) (x 81) (x 82) (x 83) (x 84) (x 85) (x 86) (x 87) (x 88) (x 89) (x 90) (x 91) (x 92) (x 93) (x 94) (x 95) (x 96) (x 97) (x 98) (x 99) (x 100) (x 101) (x 102) (x 103) (x 104) (x 105) (x 106) (x 107) (x 108) (x 109) (x 110) (x 111) (x 112) (x 113) (x 114) (x 115) (x 116) (x 117) (x 118) (x 119) (x 120) (x 121) (x 122) (x 123) (x 124) (x 125) (x 126) (x 127) (x 128) (x 129) (x 130) (x 131) (x 132) (x 133) (x 134) (x 135) (x 136) (x 137) (x 138) (x 139) (x 140) (x 141) (x 142) (x 143) (x 144) (x 145) (x 146) (x 147) (x 148) (x 149) (x 150) (x 151) (x 152) (x 153) (x 154) (x 155) (x 156) (x 157) (x 158) (x 159) (x 160) (x 161) (x 162) (x 163) (x 164) (x 165) (x 166) (x 167) (x 168) (x 169) (x 170) (x 171) (x 172) (x 173) (x 174) (x 175) (x 176) (x 177) (x 178) (x 179) (x 180) (x 181) (x 182) (x 183) (x 184) (x 185) (x 186) (x 187) (x 188) (x 189) (x 190) (x 191) (x 192) (x 193) (x 194) (x 195) (x 196) (x 197) (x 198) (x 199) (x 200) (x 201) (x 202) (x 203) (x 204) (x 205) (x 206) (x 207) (x 208) (x 209) (x 210) (x 211) (x 212) (x 213) (x 214) (x 215) (x 216) (x 217) (x 218) (x 219) (x 220) (x 221) (x 222) (x 223) (x 224) (x 225) (x 226) (x 227) (x 228) (x 229) (x 230) (x 231) (x 232) (x 233) (x 234) (x 235) (x 236) (x 237) (x 238) (x 239) (x 240) (x 241) (x 242) (x 243) (x 244) (x 245) (x 246) (x 247) (x 248) (x 249) (x 250) (x 251) (x 252) (x 253) (x 254) (x 255) (x 256) (x 257) (x 258) (x 259) (x 260) (x 261) (x 262) (x 263) (x 264) (x 265) (x 266) (x 267) (x 268) (x 269) (x 270) (x 271) (x 272) (x 273) (x 274) (x 275) (x 276) (x 277) (x 278) (x 279) (x 280) (x 281) (x 282) (x 283) (x 284) (x 285) (x 286) (x 287) (x 288) (x 289) (x 290) (x 291) (x 292) (x 293) (x 294) (x 295) (x 296) (x 297) (x 298) (x 299) (x 300) (x 301) (x 302) (x 303) (x 304) (x 305) (x 306) (x 307) (x 308) (x 309) (x 310) (x 311) (x 312) (x 313) (x 314) (x 315) (x 316) (x 317) (x 318) (x 319) (x 320) (x 321) (x 322) (x 323) (x 324) (x 325) (x 326) (x 327) (x 328) (x 329) (x 330) (x 331) (x 332) (x 333) (x 334) (x 335) (x 336) (x 337) (x 338) (x 339) (x 340) (x 341) (x 342) (x 343) (x 344) (x 345) (x 346) (x 347) (x 348) (x 349) (x 350) (x 351) (x 352) (x 353) (x 354) (x 355) (x 356) (x 357) (x 358) (x 359) (x 360) (x 361) (x 362) (x 363) (x 364) (x 365) (x 366) (x 367) (x 368) (x 369) (x 370) (x 371) (x 372) (x 373) (x 374) (x 375) (x 376) (x 377) (x 378) (x 379) (x 380) (x 381) (x 382) (x 383) (x 384) (x 385) (x 386) (x 387) (x 388)
  · exact rest_def F B b ls k3 k4 s eof i acc m md w Post hst hm hlen c hc h0 h42 h63 h92 h91 hP (x 0) (x 1) (x 5) (x 8) (x 9) (x 10) (x 11) (x 12) (x 13) (x 14) (x 15) (x 16) (x 17) (x 18) (x 19) (x 20) (x 21) (x 22) (x 23) (x 24) (x 25) (x 26) (x 27) (x 28) (x 29) (x 30) (x 31) (x 32) (x 33) (x 34) (x 35) (x 36) (x 37) (x 38) (x 39) (x 40) (x 41) (x 42) (x 43) (x 44) (x 45) (x 46) (x 47) (x 48) (x 49) (x 50) (x 51) (x 52) (x 53) (x 54) (x 55) (x 56) (x 57) (x 58) (x 59) (x 60) (x 61) (x 62) (x 63) (x 64) (x 65) (x 66) (x 67) (x 68) (x 69) (x 70) (x 71) (x 72) (x 73) (x 74) (x 75) (x 76) (x 77) (x 78) (x 79) (x 80) (x 81) (x 82) (x 83) (x 84) (x 85) (x 86) (x 87) (x 88) (x 89) (x 90) (x 91) (x 92) (x 93) (x 94) (x 95) (x 96) (x 97) (x 98) (x 99) (x 100) (x 101) (x 102) (x 103) (x 104) (x 105) (x 106) (x 107) (x 108) (x 109) (x 110) (x 111) (x 112) (x 113) (x 114) (x 115) (x 116) (x 117) (x 118) (x 119) (x 120) (x 121) (x 122) (x 123) (x 124) (x 125) (x 126) (x 127) (x 128) (x 129) (x 130) (x 131) (x 132) (x 133) (x 134) (x 135) (x 136) (x 137) (x 138) (x 139) (x 140) (x 141) (x 142) (x 143) (x 144) (x 145) (x 146) (x 147) (x 148) (x 149) (x 150) (x 151) (x 152) (x 153) (x 154) (x 155) (x 156) (x 157) (x 158) (x 159) (x 160) (x 161) (x 162) (x 163) (x 164) (x 165) (x 166) (x 167) (x 168) (x 169) (x 170) (x 171) (x 172) (x 173) (x 174) (x 175) (x 176) (x 177) (x 178) (x 179) (x 180) (x 181) (x 182) (x 183) (x 184) (x 185) (x 186) (x 187) (x 188) (x 189) (x 190) (x 191) (x 192) (x 193) (x 194) (x 195) (x 196) (x 197) (x 198) (x 199) (x 200) (x 201) (x 202) (x 203) (x 204) (x 205) (x 206) (x 207) (x 208) (x 209) (x 210) (x 211) (x 212) (x 213) (x 214) (x 215) (x 216) (x 217) (x 218) (x 219) (x 220) (x 221) (x 222) (x 223) (x 224) (x 225) (x 226) (x 227) (x 228) (x 229) (x 230) (x 231) (x 232) (x 233) (x 234) (x 235) (x 236) (x 237) (x 238) (x 239) (x 240) (x 241) (x 242) (x 243) (x 244) (x 245) (x 246) (x 247) (x 248) (x 249) (x 250) (x 251) (x 252) (x 253) (x 254) (x 255) (x 256) (x 257) (x 258) (x 259) (x 260) (x 261) (x 262) (x 263) (x 264) (x 265) (x 266) (x 267) (x 268) (x 269) (x 270) (x 271) (x 272) (x 273) (x 274) (x 275) (x 276) (x 277) (x 278) (x 279) (x 280) (x 281) (x 282) (x 283) (x 284) (x 285) (x 286) (x 287) (x 288) (x 289) (x 290) (x 291) (x 292) (x 293) (x 294) (x 295) (x 296) (x 297) (x 298) (x 299) (x 300) (x 301) (x 302) (x 303) (x 304) (x 305) (x 306) (x 307) (x 308) (x 309) (x 310) (x 311) (x 312) (x 313) (x 314) (x 315) (x 316) (x 317) (x 318) (x 319) (x 320) (x 321) (x 322) (x 323) (x 324) (x 325) (x 326) (x 327) (x 328) (x 329) (x 330) (x 331) (x 332) (x 333) (x 334) (x 335) (x 336) (x 337) (x 338) (x 339) (x 340) (x 341) (x 342) (x 343) (x 344) (x 345) (x 346) (x 347) (x 348) (x 349) (x 350) (x 351) (x 352) (x 353) (x 354) (x 355) (x 356) (x 357) (x 358) (x 359) (x 360) (x 361) (x 362) (x 363) (x 364) (x 365) (x 366) (x 367) (x 368) (x 369) (x 370) (x 371) (x 372) (x 373) (x 374) (x 375) (x 376) (x 377) (x 378) (x 379) (x 380) (x 381) (x 382) (x 383) (x 384) (x 385) (x 386) (x 387) (x 388)
end Go.Proofs.YtpfgmiocdgfniaaGreatFmt
