/- Joined by pack.py: BrQ, BrR, NextRu. -/
import Derived.Test.YtonifkkdokaooaaFmtP30
import Derived.Test.YtonifkkdokaooaaFmtP24
/- Walk: the bracket's loop in regexpNext, a round by its case. Printed by gen_br.py. -/
namespace Go.Proofs.YtonifkkdokaooaaFmt
open Go.RowKit Go.Extern.Stop Go.Stop Go.Extern
set_option linter.unusedVariables false

set_option maxRecDepth 1000000 in
set_option maxHeartbeats 8000000 in
theorem brN3_eq : sq2 brN3 = .block 6 (.loop brBody) := rfl
theorem br3_any (F : Interp) (B b ls k3 k4 kl g : Nat) (s : ByteArray) (eof : Value) (lit : Nat) (acc : List UInt8) (m : Int) (fil : Bool) (w0 wS : World) (Post : Ending → World → Prop) (Q : Exit → Act → World → Prop)
    (hC : BC F B b ls k3 k4 kl s eof acc lit w0) (hks : Kp (XX ls B b wS) wS w0) (hQ : RetQ Q Post) (c i : Nat) (bs : List UInt8) (w : World) (a : Array Value) (hF : LF m k3 k4 kl g fil c false .nilIface .nilIface a) (hB : BS ls s w0 g i bs false false .nilIface .nilIface w) (hc0 : c ≠ 0) (hc : c ≤ 1114111) (hl : bs.length + 8 ≤ 8 * i) (hli : lit ≤ i)
    (hP : RPost B b ls s eof acc wS (br3 fil s lit c i bs) Post) : Code.wp Tryf.prog (sq2 brN3) Q ⟨a, []⟩ w := by
  rw [brN3_eq]
  refine wp_block (wp_loop_rounds (need s ⟨c, i, bs, false, false, false⟩ + 1) ?_)
  exact br_rounds F B b ls k3 k4 kl g s eof lit acc m fil w0 wS Post (Exit.inBlock 6 Q) hC hks (fun a w v h1 h2 h3 => hQ a w v h1 h2 h3) _ c i bs false false false .nilIface .nilIface w a hF hB hc (fun _ => hl) hli (by omega) hP
set_option maxRecDepth 1000000 in
set_option maxHeartbeats 8000000 in
theorem br2_any (F : Interp) (B b ls k3 k4 kl g : Nat) (s : ByteArray) (eof : Value) (lit : Nat) (acc : List UInt8) (m : Int) (fil : Bool) (w0 wS : World) (Post : Ending → World → Prop) (Q : Exit → Act → World → Prop)
    (hC : BC F B b ls k3 k4 kl s eof acc lit w0) (hks : Kp (XX ls B b wS) wS w0) (hQ : RetQ Q Post) (c i : Nat) (bs : List UInt8) (w : World) (a : Array Value) (hF : LF m k3 k4 kl g fil c false .nilIface .nilIface a) (hB : BS ls s w0 g i bs false false .nilIface .nilIface w) (hc0 : c ≠ 0) (hc : c ≤ 1114111) (hl : bs.length + 8 ≤ 8 * i) (hli : lit ≤ i)
    (hP : RPost B b ls s eof acc wS (br2 fil s lit c i bs) Post) : Code.wp Tryf.prog brN3 Q ⟨a, []⟩ w := by
  have h3 := br3_any F B b ls k3 k4 kl g s eof lit acc m fil w0 wS Post Q hC hks hQ
  have H3 := Lib.hid h3
  clear h3
  refine hF.open (C := fun a => Code.wp Tryf.prog brN3 Q ⟨a, []⟩ w) fun x => ?_
  clear hF a
  unfold br2 at hP
  by_cases h93 : c = 93
  · rw [if_pos h93] at hP
    subst h93
    have HC := Lib.hid hC
    have HB := Lib.hid hB
    have HKS := Lib.hid hks
    have HQ := Lib.hid hQ
    have HP := Lib.hid hP
    clear hC hB hks hQ hP
    conv => arg 2; whnf
    refine wp_seq_k fun K hK => ?_
    have HK := Lib.hid hK
    clear hK
    have HW1 := Lib.hid (writeByte_any w0.heap.size g (Lib.byteCells bs) 93 w HB.out.Bg (by have := HB.out.room HC.out; omega) HB.out.kp.size)
    go_wp2_with fail
    refine HW1.out.mono ?_
    rintro e w1 ⟨rfl, hB1, hf1⟩
    have HB1 := Lib.hid ((HB.out.write (out := [93]) hB1 hf1).toB (by rw [List.length_append]; simp only [List.length_cons, List.length_nil]; omega))
    clear hB1 hf1 HW1
    by_cases hz : (nx s i).1 = 0
    · have HP' := HP.out
      rw [if_pos hz] at HP'
      have HPx := HP
      clear HP HPx
      have HP := Lib.hid HP'
      clear HP'
      have st2 := HB1.out.st HC.out
      obtain ⟨p23, p24, p21, p20⟩ := (st2).cells
      have HN2 := Lib.hid (next_any ls s i w1 st2.L st2.hi (by have := st2.base.hs; omega) st2.base.T)
      obtain ⟨ha2, hb2, hc2⟩ := nx_le s i st2.hi
      rw [hz] at HN2
      clear hz
      clear st2
      go_wp2_with fail
      refine HN2.out.mono ?_
      rintro e w2 ⟨rfl, hL2, hk2⟩
      have HB2 := Lib.hid (HB1.out.lex hL2 hb2 ha2 hk2)
      clear hL2 hk2 HN2 p23 p24 p21 p20
      have HLB := Lib.hid (litB_any F B b ls k3 k4 kl s eof _ lit acc w2 (HB2.out.st HC.out) (HB2.out.klc HC.out) HC.out.st.hi HC.out.len)
      have HKS2 := Lib.hid (HKS.out.XXls HB2.out.kp)
      go_wp2_with fail
      refine HLB.out.mono ?_
      rintro e wl ⟨rfl, hsl, hkl⟩
      have HE := Lib.hid (HP.out.use hsl.L hsl.Bd (HKS2.out.XXcall hkl) (err0 _ _ _ _))
      clear hsl hkl HLB HKS2
      go_wp2_with fail
      exact HQ.out.use rfl rfl HE.out
    · have HP' := HP.out
      rw [if_neg hz] at HP'
      obtain ⟨hq1, hq2⟩ := nx_adv s i hz
      have bz : (((nx s i).1 : Int) == 0) = false := by rw [beq_eq_false_iff_ne]; omega
      have HZ := Lib.hid hz
      clear hz
      have st2 := HB1.out.st HC.out
      obtain ⟨p23, p24, p21, p20⟩ := (st2).cells
      have HN2 := Lib.hid (next_any ls s i w1 st2.L st2.hi (by have := st2.base.hs; omega) st2.base.T)
      obtain ⟨ha2, hb2, hc2⟩ := nx_le s i st2.hi
      clear st2
      go_wp2_with fail
      refine HN2.out.mono ?_
      rintro e w2 ⟨rfl, hL2, hk2⟩
      have HB2 := Lib.hid (HB1.out.lex hL2 hb2 ha2 hk2)
      clear hL2 hk2 HN2 p23 p24 p21 p20
      go_wp2_with fail
      refine HK.out _ _ ?_
      exact H3.out _ _ _ _ _ ⟨rfl, rfl, rfl, rfl, rfl, rfl, rfl, rfl, rfl, rfl, rfl, rfl⟩ HB2.out HZ.out hc2 (by rw [List.length_append]; simp only [List.length_cons, List.length_nil]; omega) (by omega) HP'
  · rw [if_neg h93] at hP
    have b93 : ((c : Int) == 93) = false := by rw [beq_eq_false_iff_ne]; omega
    have HC := Lib.hid hC
    have HB := Lib.hid hB
    have HKS := Lib.hid hks
    have HQ := Lib.hid hQ
    have HP := Lib.hid hP
    clear hC hB hks hQ hP h93
    conv => arg 2; whnf
    refine wp_seq_k fun K hK => ?_
    have HK := Lib.hid hK
    clear hK
    go_wp2_with fail
    refine HK.out _ _ ?_
    exact H3.out _ _ _ _ _ ⟨rfl, rfl, rfl, rfl, rfl, rfl, rfl, rfl, rfl, rfl, rfl, rfl⟩ HB.out hc0 hc hl hli HP.out
end Go.Proofs.YtonifkkdokaooaaFmt

/- Walk: the bracket's loop in regexpNext, a round by its case. Printed by gen_br.py. -/
namespace Go.Proofs.YtonifkkdokaooaaFmt
open Go.RowKit Go.Extern.Stop Go.Stop Go.Extern
set_option linter.unusedVariables false

set_option maxRecDepth 1000000 in
set_option maxHeartbeats 8000000 in
theorem br1_any (F : Interp) (B b ls k3 k4 kl g : Nat) (s : ByteArray) (eof : Value) (lit : Nat) (acc : List UInt8) (m : Int) (fil : Bool) (w0 wS : World) (Post : Ending → World → Prop) (Q : Exit → Act → World → Prop)
    (hC : BC F B b ls k3 k4 kl s eof acc lit w0) (hks : Kp (XX ls B b wS) wS w0) (hQ : RetQ Q Post) (c i : Nat) (w : World) (a : Array Value) (hF : LF m k3 k4 kl g fil c false .nilIface .nilIface a) (hB : BS ls s w0 g i [91] false false .nilIface .nilIface w) (hc0 : c ≠ 0) (hc : c ≤ 1114111) (hl : 2 ≤ i) (hli : lit ≤ i)
    (hP : RPost B b ls s eof acc wS (br1 fil s lit c i) Post) : Code.wp Tryf.prog brN2 Q ⟨a, []⟩ w := by
  have h2 := br2_any F B b ls k3 k4 kl g s eof lit acc m fil w0 wS Post Q hC hks hQ
  have H2 := Lib.hid h2
  clear h2
  refine hF.open (C := fun a => Code.wp Tryf.prog brN2 Q ⟨a, []⟩ w) fun x => ?_
  clear hF a
  unfold br1 at hP
  by_cases h33 : c = 33
  · rw [if_pos (.inl h33)] at hP
    subst h33
    have HC := Lib.hid hC
    have HB := Lib.hid hB
    have HKS := Lib.hid hks
    have HQ := Lib.hid hQ
    have HP := Lib.hid hP
    clear hC hB hks hQ hP
    conv => arg 2; whnf
    refine wp_seq_k fun K hK => ?_
    have HK := Lib.hid hK
    clear hK
    have HW1 := Lib.hid (writeByte_any w0.heap.size g (Lib.byteCells [91]) 94 w HB.out.Bg (by have := HB.out.room HC.out; omega) HB.out.kp.size)
    go_wp2_with fail
    refine HW1.out.mono ?_
    rintro e w1 ⟨rfl, hB1, hf1⟩
    have HB1 := Lib.hid ((HB.out.write (out := [94]) hB1 hf1).toB (by rw [List.length_append]; simp only [List.length_cons, List.length_nil]; omega))
    clear hB1 hf1 HW1
    by_cases hz : (nx s i).1 = 0
    · have HP' := HP.out
      rw [if_pos hz] at HP'
      have HPx := HP
      clear HP HPx
      have HP := Lib.hid HP'
      clear HP'
      have st2 := HB1.out.st HC.out
      obtain ⟨p23, p24, p21, p20⟩ := (st2).cells
      have HN2 := Lib.hid (next_any ls s i w1 st2.L st2.hi (by have := st2.base.hs; omega) st2.base.T)
      obtain ⟨ha2, hb2, hc2⟩ := nx_le s i st2.hi
      rw [hz] at HN2
      clear hz
      clear st2
      go_wp2_with fail
      refine HN2.out.mono ?_
      rintro e w2 ⟨rfl, hL2, hk2⟩
      have HB2 := Lib.hid (HB1.out.lex hL2 hb2 ha2 hk2)
      clear hL2 hk2 HN2 p23 p24 p21 p20
      have HLB := Lib.hid (litB_any F B b ls k3 k4 kl s eof _ lit acc w2 (HB2.out.st HC.out) (HB2.out.klc HC.out) HC.out.st.hi HC.out.len)
      have HKS2 := Lib.hid (HKS.out.XXls HB2.out.kp)
      go_wp2_with fail
      refine HLB.out.mono ?_
      rintro e wl ⟨rfl, hsl, hkl⟩
      have HE := Lib.hid (HP.out.use hsl.L hsl.Bd (HKS2.out.XXcall hkl) (err0 _ _ _ _))
      clear hsl hkl HLB HKS2
      go_wp2_with fail
      exact HQ.out.use rfl rfl HE.out
    · have HP' := HP.out
      rw [if_neg hz] at HP'
      obtain ⟨hq1, hq2⟩ := nx_adv s i hz
      have bz : (((nx s i).1 : Int) == 0) = false := by rw [beq_eq_false_iff_ne]; omega
      have HZ := Lib.hid hz
      clear hz
      have st2 := HB1.out.st HC.out
      obtain ⟨p23, p24, p21, p20⟩ := (st2).cells
      have HN2 := Lib.hid (next_any ls s i w1 st2.L st2.hi (by have := st2.base.hs; omega) st2.base.T)
      obtain ⟨ha2, hb2, hc2⟩ := nx_le s i st2.hi
      clear st2
      go_wp2_with fail
      refine HN2.out.mono ?_
      rintro e w2 ⟨rfl, hL2, hk2⟩
      have HB2 := Lib.hid (HB1.out.lex hL2 hb2 ha2 hk2)
      clear hL2 hk2 HN2 p23 p24 p21 p20
      go_wp2_with fail
      refine HK.out _ _ ?_
      exact H2.out _ _ _ _ _ ⟨rfl, rfl, rfl, rfl, rfl, rfl, rfl, rfl, rfl, rfl, rfl, rfl⟩ HB2.out HZ.out hc2 (by simp only [List.length_cons, List.length_nil, List.length_append]; omega) (by omega) HP'
  by_cases h33' : c = 94
  · rw [if_pos (.inr h33')] at hP
    subst h33'
    have HC := Lib.hid hC
    have HB := Lib.hid hB
    have HKS := Lib.hid hks
    have HQ := Lib.hid hQ
    have HP := Lib.hid hP
    clear hC hB hks hQ hP
    conv => arg 2; whnf
    refine wp_seq_k fun K hK => ?_
    have HK := Lib.hid hK
    clear hK
    have HW1 := Lib.hid (writeByte_any w0.heap.size g (Lib.byteCells [91]) 94 w HB.out.Bg (by have := HB.out.room HC.out; omega) HB.out.kp.size)
    go_wp2_with fail
    refine HW1.out.mono ?_
    rintro e w1 ⟨rfl, hB1, hf1⟩
    have HB1 := Lib.hid ((HB.out.write (out := [94]) hB1 hf1).toB (by rw [List.length_append]; simp only [List.length_cons, List.length_nil]; omega))
    clear hB1 hf1 HW1
    by_cases hz : (nx s i).1 = 0
    · have HP' := HP.out
      rw [if_pos hz] at HP'
      have HPx := HP
      clear HP HPx
      have HP := Lib.hid HP'
      clear HP'
      have st2 := HB1.out.st HC.out
      obtain ⟨p23, p24, p21, p20⟩ := (st2).cells
      have HN2 := Lib.hid (next_any ls s i w1 st2.L st2.hi (by have := st2.base.hs; omega) st2.base.T)
      obtain ⟨ha2, hb2, hc2⟩ := nx_le s i st2.hi
      rw [hz] at HN2
      clear hz
      clear st2
      go_wp2_with fail
      refine HN2.out.mono ?_
      rintro e w2 ⟨rfl, hL2, hk2⟩
      have HB2 := Lib.hid (HB1.out.lex hL2 hb2 ha2 hk2)
      clear hL2 hk2 HN2 p23 p24 p21 p20
      have HLB := Lib.hid (litB_any F B b ls k3 k4 kl s eof _ lit acc w2 (HB2.out.st HC.out) (HB2.out.klc HC.out) HC.out.st.hi HC.out.len)
      have HKS2 := Lib.hid (HKS.out.XXls HB2.out.kp)
      go_wp2_with fail
      refine HLB.out.mono ?_
      rintro e wl ⟨rfl, hsl, hkl⟩
      have HE := Lib.hid (HP.out.use hsl.L hsl.Bd (HKS2.out.XXcall hkl) (err0 _ _ _ _))
      clear hsl hkl HLB HKS2
      go_wp2_with fail
      exact HQ.out.use rfl rfl HE.out
    · have HP' := HP.out
      rw [if_neg hz] at HP'
      obtain ⟨hq1, hq2⟩ := nx_adv s i hz
      have bz : (((nx s i).1 : Int) == 0) = false := by rw [beq_eq_false_iff_ne]; omega
      have HZ := Lib.hid hz
      clear hz
      have st2 := HB1.out.st HC.out
      obtain ⟨p23, p24, p21, p20⟩ := (st2).cells
      have HN2 := Lib.hid (next_any ls s i w1 st2.L st2.hi (by have := st2.base.hs; omega) st2.base.T)
      obtain ⟨ha2, hb2, hc2⟩ := nx_le s i st2.hi
      clear st2
      go_wp2_with fail
      refine HN2.out.mono ?_
      rintro e w2 ⟨rfl, hL2, hk2⟩
      have HB2 := Lib.hid (HB1.out.lex hL2 hb2 ha2 hk2)
      clear hL2 hk2 HN2 p23 p24 p21 p20
      go_wp2_with fail
      refine HK.out _ _ ?_
      exact H2.out _ _ _ _ _ ⟨rfl, rfl, rfl, rfl, rfl, rfl, rfl, rfl, rfl, rfl, rfl, rfl⟩ HB2.out HZ.out hc2 (by simp only [List.length_cons, List.length_nil, List.length_append]; omega) (by omega) HP'
  · rw [if_neg (by omega)] at hP
    have b33 : ((c : Int) == 33) = false := by rw [beq_eq_false_iff_ne]; omega
    have b94 : ((c : Int) == 94) = false := by rw [beq_eq_false_iff_ne]; omega
    have HC := Lib.hid hC
    have HB := Lib.hid hB
    have HKS := Lib.hid hks
    have HQ := Lib.hid hQ
    have HP := Lib.hid hP
    clear hC hB hks hQ hP h33 h33'
    conv => arg 2; whnf
    refine wp_seq_k fun K hK => ?_
    have HK := Lib.hid hK
    clear hK
    go_wp2_with fail
    refine HK.out _ _ ?_
    exact H2.out _ _ _ _ _ ⟨rfl, rfl, rfl, rfl, rfl, rfl, rfl, rfl, rfl, rfl, rfl, rfl⟩ HB.out hc0 hc (by simp only [List.length_cons, List.length_nil]; omega) hli HP.out
end Go.Proofs.YtonifkkdokaooaaFmt

/- Walk: regexpNext's 'switch c', a case. Printed by gen_next.py. -/
namespace Go.Proofs.YtonifkkdokaooaaFmt
open Go.RowKit Go.Extern.Stop Go.Stop Go.Extern
set_option linter.unusedVariables false


noncomputable def c53 : Code := sq2 (sq2 (sq2 starC))
set_option maxRecDepth 1000000 in
set_option maxHeartbeats 8000000 in
theorem tail53 (F : Interp) (B b ls k3 k4 : Nat) (s : ByteArray) (eof : Value) (j : Nat) (acc : List UInt8) (m : Int) (md : Md) (sb : Bool) (w0 w : World) (Post : Ending → World → Prop) (K : Act → World → Prop) (Q : Exit → Act → World → Prop)
    (hst : St F B b ls k3 k4 s eof j acc w) (hm : Mo m md) (hlen : acc.length ≤ 100000000000000) (hP : RPost B b ls s eof acc w0 ⟨0, 0, j, stTail md sb⟩ Post) (hk0 : Kp (XX ls B b w0) w0 w) (v0 v1 x5 x8 x9 x10 x11 x13 x14 x15 x16 x17 x18 x19 x20 x21 x22 x23 x24 x25 x26 x27 x28 x29 x30 x31 x32 x33 x34 x35 x36 x37 x38 x39 x40 x41 x42 x43 x44 x45 x46 x47 x48 x49 x50 x51 x52 x53 x54 x55 x56 x57 x58 x59 x60 x61 x62 x63 x64 x65 x66 x67 x68 x69 x70 x71 x72 x73 x74 x75 x76 x77 x78 x79 x80 x81 x82 x83 x84 x85 x86 x87 x88 x89 x90 x91 x92 x93 x94 x95 x96 x97 x98 x99 x100 x101 x102 x103 x104 x105 x106 x107 x108 x109 x110 x111 x112 x113 x114 x115 x116 x117 x118 x119 x120 x121 x122 x123 x124 x125 x126 x127 x128 x129 x130 x131 x132 x133 x134 x135 x136 x137 x138 x139 x140 x141 x142 x143 x144 x145 x146 x147 x148 x149 x150 x151 x152 x153 x154 x155 x156 x157 x158 x159 x160 x161 x162 x163 x164 x165 x166 x167 x168 x169 x170 x171 x172 x173 x174 x175 x176 x177 x178 x179 x180 x181 x182 x183 x184 x185 x186 x187 x188 x189 x190 x191 x192 x193 x194 x195 x196 x197 x198 x199 x200 x201 x202 x203 x204 x205 x206 x207 x208 x209 x210 x211 x212 x213 x214 x215 x216 x217 x218 x219 x220 x221 x222 x223 x224 x225 x226 x227 x228 x229 x230 x231 x232 x233 x234 x235 x236 x237 x238 x239 x240 x241 x242 x243 x244 x245 x246 x247 x248 x249 x250 x251 x252 x253 x254 x255 x256 x257 x258 x259 x260 x261 x262 x263 x264 x265 x266 x267 x268 x269 x270 x271 x272 x273 x274 x275 x276 x277 x278 x279 x280 x281 x282 x283 x284 x285 x286 x287 x288 x289 x290 x291 x292 x293 x294 x295 x296 x297 x298 x299 x300 x301 x302 x303 x304 x305 x306 x307 x308 x309 x310 x311 x312 x313 x314 x315 x316 x317 x318 x319 x320 x321 x322 x323 x324 x325 x326 x327 x328 x329 x330 x331 x332 x333 x334 x335 x336 x337 x338 x339 x340 x341 x342 x343 x344 x345 x346 x347 x348 x349 x350 x351 x352 x353 x354 x355 x356 x357 x358 x359 x360 x361 x362 x363 x364 x365 x366 x367 x368 x369 x370 x371 x372 x373 x374 x375 x376 x377 x378 x379 x380 x381 x382 x383 x384 x385 x386 x387 x388 : Value)
    (hK : ∀ (y184 y185 y186 y187 y188 y189 y190 y191 y192 y193 : Value) w', Post (.returned .nilIface) w' → K ⟨#[v0, v1, .int .u64 m, .pointer (some ⟨k3, 0, none⟩), .pointer (some ⟨k4, 0, none⟩), x5, .nilIface, .int .i32 42, x8, x9, x10, x11, .bool sb, x13, x14, x15, x16, x17, x18, x19, x20, x21, x22, x23, x24, x25, x26, x27, x28, x29, x30, x31, x32, x33, x34, x35, x36, x37, x38, x39, x40, x41, x42, x43, x44, x45, x46, x47, x48, x49, x50, x51, x52, x53, x54, x55, x56, x57, x58, x59, x60, x61, x62, x63, x64, x65, x66, x67, x68, x69, x70, x71, x72, x73, x74, x75, x76, x77, x78, x79, x80, x81, x82, x83, x84, x85, x86, x87, x88, x89, x90, x91, x92, x93, x94, x95, x96, x97, x98, x99, x100, x101, x102, x103, x104, x105, x106, x107, x108, x109, x110, x111, x112, x113, x114, x115, x116, x117, x118, x119, x120, x121, x122, x123, x124, x125, x126, x127, x128, x129, x130, x131, x132, x133, x134, x135, x136, x137, x138, x139, x140, x141, x142, x143, x144, x145, x146, x147, x148, x149, x150, x151, x152, x153, x154, x155, x156, x157, x158, x159, x160, x161, x162, x163, x164, x165, x166, x167, x168, x169, x170, x171, x172, x173, x174, x175, x176, x177, x178, x179, x180, x181, x182, x183, y184, y185, y186, y187, y188, y189, y190, y191, y192, y193, x194, x195, x196, x197, x198, x199, x200, x201, x202, x203, x204, x205, x206, x207, x208, x209, x210, x211, x212, x213, x214, x215, x216, x217, x218, x219, x220, x221, x222, x223, x224, x225, x226, x227, x228, x229, x230, x231, x232, x233, x234, x235, x236, x237, x238, x239, x240, x241, x242, x243, x244, x245, x246, x247, x248, x249, x250, x251, x252, x253, x254, x255, x256, x257, x258, x259, x260, x261, x262, x263, x264, x265, x266, x267, x268, x269, x270, x271, x272, x273, x274, x275, x276, x277, x278, x279, x280, x281, x282, x283, x284, x285, x286, x287, x288, x289, x290, x291, x292, x293, x294, x295, x296, x297, x298, x299, x300, x301, x302, x303, x304, x305, x306, x307, x308, x309, x310, x311, x312, x313, x314, x315, x316, x317, x318, x319, x320, x321, x322, x323, x324, x325, x326, x327, x328, x329, x330, x331, x332, x333, x334, x335, x336, x337, x338, x339, x340, x341, x342, x343, x344, x345, x346, x347, x348, x349, x350, x351, x352, x353, x354, x355, x356, x357, x358, x359, x360, x361, x362, x363, x364, x365, x366, x367, x368, x369, x370, x371, x372, x373, x374, x375, x376, x377, x378, x379, x380, x381, x382, x383, x384, x385, x386, x387, x388], []⟩ w') :
    Code.wp Tryf.prog c53 (Exit.inBlock 4 (Exit.then K Q)) ⟨#[v0, v1, .int .u64 m, .pointer (some ⟨k3, 0, none⟩), .pointer (some ⟨k4, 0, none⟩), x5, .nilIface, .int .i32 42, x8, x9, x10, x11, .bool sb, x13, x14, x15, x16, x17, x18, x19, x20, x21, x22, x23, x24, x25, x26, x27, x28, x29, x30, x31, x32, x33, x34, x35, x36, x37, x38, x39, x40, x41, x42, x43, x44, x45, x46, x47, x48, x49, x50, x51, x52, x53, x54, x55, x56, x57, x58, x59, x60, x61, x62, x63, x64, x65, x66, x67, x68, x69, x70, x71, x72, x73, x74, x75, x76, x77, x78, x79, x80, x81, x82, x83, x84, x85, x86, x87, x88, x89, x90, x91, x92, x93, x94, x95, x96, x97, x98, x99, x100, x101, x102, x103, x104, x105, x106, x107, x108, x109, x110, x111, x112, x113, x114, x115, x116, x117, x118, x119, x120, x121, x122, x123, x124, x125, x126, x127, x128, x129, x130, x131, x132, x133, x134, x135, x136, x137, x138, x139, x140, x141, x142, x143, x144, x145, x146, x147, x148, x149, x150, x151, x152, x153, x154, x155, x156, x157, x158, x159, x160, x161, x162, x163, x164, x165, x166, x167, x168, x169, x170, x171, x172, x173, x174, x175, x176, x177, x178, x179, x180, x181, x182, x183, x184, x185, x186, x187, x188, x189, x190, x191, x192, x193, x194, x195, x196, x197, x198, x199, x200, x201, x202, x203, x204, x205, x206, x207, x208, x209, x210, x211, x212, x213, x214, x215, x216, x217, x218, x219, x220, x221, x222, x223, x224, x225, x226, x227, x228, x229, x230, x231, x232, x233, x234, x235, x236, x237, x238, x239, x240, x241, x242, x243, x244, x245, x246, x247, x248, x249, x250, x251, x252, x253, x254, x255, x256, x257, x258, x259, x260, x261, x262, x263, x264, x265, x266, x267, x268, x269, x270, x271, x272, x273, x274, x275, x276, x277, x278, x279, x280, x281, x282, x283, x284, x285, x286, x287, x288, x289, x290, x291, x292, x293, x294, x295, x296, x297, x298, x299, x300, x301, x302, x303, x304, x305, x306, x307, x308, x309, x310, x311, x312, x313, x314, x315, x316, x317, x318, x319, x320, x321, x322, x323, x324, x325, x326, x327, x328, x329, x330, x331, x332, x333, x334, x335, x336, x337, x338, x339, x340, x341, x342, x343, x344, x345, x346, x347, x348, x349, x350, x351, x352, x353, x354, x355, x356, x357, x358, x359, x360, x361, x362, x363, x364, x365, x366, x367, x368, x369, x370, x371, x372, x373, x374, x375, x376, x377, x378, x379, x380, x381, x382, x383, x384, x385, x386, x387, x388], []⟩ w := by
  obtain ⟨h3, h4, h1, h0⟩ := hst.cells
  have HKK := Lib.hid hK
  have HK0 := Lib.hid hk0
  have HS := Lib.hid hst
  have hd := hm.dot0
  clear hst hK hk0 hm
  rcases tail_cases md sb with ⟨hsbf, ht⟩ | ⟨hsbt, hdt, ht⟩ | ⟨hsbt, hdf, ht⟩
  · rw [ht] at hP
    have HP := Lib.hid hP
    clear hP ht
    subst hsbf
    conv => arg 2; whnf
    go_wp2_with fail
    refine (writeString_any B b (Lib.byteCells acc) ⟨#[91, 94, 47, 93, 42]⟩ _ HS.out.Bd (by simp [Lib.byteCells, ByteArray.size]; omega) HS.out.sz).mono ?_
    rintro e w' ⟨rfl, hB, hfr⟩
    go_wp2_with fail
    have st' := HS.out.write (out := [91, 94, 47, 93, 42]) hB hfr
    exact HKK.out _ _ _ _ _ _ _ _ _ _ _ (HP.out.use st'.L st'.Bd (HK0.out.XXwrite hfr) (err0 _ _ _ _))
  · rw [ht] at hP
    have HP := Lib.hid hP
    clear hP ht
    subst hsbt; rw [hdt] at hd
    conv => arg 2; whnf
    go_wp2_with fail
    refine (writeString_any B b (Lib.byteCells acc) ⟨#[91, 94, 47, 93, 42]⟩ _ HS.out.Bd (by simp [Lib.byteCells, ByteArray.size]; omega) HS.out.sz).mono ?_
    rintro e w' ⟨rfl, hB, hfr⟩
    go_wp2_with fail
    have st' := HS.out.write (out := [91, 94, 47, 93, 42]) hB hfr
    exact HKK.out _ _ _ _ _ _ _ _ _ _ _ (HP.out.use st'.L st'.Bd (HK0.out.XXwrite hfr) (err0 _ _ _ _))
  · rw [ht] at hP
    have HP := Lib.hid hP
    clear hP ht
    subst hsbt; rw [hdf] at hd
    conv => arg 2; whnf
    go_wp2_with fail
    refine (writeString_any B b (Lib.byteCells acc) ⟨#[40, 91, 94, 47, 46, 93, 91, 94, 47, 93, 42, 41, 63]⟩ _ HS.out.Bd (by simp [Lib.byteCells, ByteArray.size]; omega) HS.out.sz).mono ?_
    rintro e w' ⟨rfl, hB, hfr⟩
    go_wp2_with fail
    have st' := HS.out.write (out := [40, 91, 94, 47, 46, 93, 91, 94, 47, 93, 42, 41, 63]) hB hfr
    exact HKK.out _ _ _ _ _ _ _ _ _ _ _ (HP.out.use st'.L st'.Bd (HK0.out.XXwrite hfr) (err0 _ _ _ _))
end Go.Proofs.YtonifkkdokaooaaFmt
