/- Joined by pack.py: BrG, BrE, BrC. -/
import Derived.Test.YtpfgmiocdgfniaaGreatFmtP07
set_option linter.unusedVariables false
set_option maxHeartbeats 8000000
set_option maxRecDepth 1000000
namespace Go.Proofs.YtpfgmiocdgfniaaGreatFmt
open Go.RowKit Go.Extern.Stop Go.Stop Go.Extern
theorem rd_def0 (F : Interp) (B b ls k3 k4 kl g : Nat) (s : ByteArray) (eof : Value) (lit : Nat) (acc : List UInt8) (m : Int) (fil : Bool) (w0 w : World) (c i : Nat) (bs : List UInt8) (sl de ce : Bool) (dv cv : Value) (K : Act → World → Prop) (Q : Exit → Act → World → Prop)
    (hC : BC F B b ls k3 k4 kl s eof acc lit w0) (hB : BS ls s w0 g i bs de ce dv cv w) (h1c : c ≤ 1114111) (h0 : c ≠ 0) (h92 : c ≠ 92) (h45 : c ≠ 45) (h93 : c ≠ 93) (h91 : c ≠ 91) (hl4 : bs.length + 4 ≤ 8 * i) (hfl : fil = false)
    (hK : ∀ a w' dv' cv', LF m k3 k4 kl g fil (nx s i).1 sl dv' cv' a → BS ls s w0 g (nx s i).2 (bs ++ en c) de ce dv' cv' w' → K ⟨a, []⟩ w') (a : Array Value) (hF : LF m k3 k4 kl g fil c sl dv cv a) :
    Code.wp Tryz.prog brBody (Exit.then K Q) ⟨a, []⟩ w := by
  refine hF.open (C := fun a => Code.wp Tryz.prog brBody (Exit.then K Q) ⟨a, []⟩ w) fun x => ?_
  clear hF a
  have HC := Lib.hid hC
  have HB := Lib.hid hB
  have HK := Lib.hid hK
  obtain ⟨hj0, hj1, hj2⟩ := nx_le s i hB.hi
  have hr := hB.room hC
  have hbl := hB.bl
  have hsz := hB.kp.size
  have hs42 := hC.st.base.hs
  subst hfl
  have b0 : ((c : Int) == 0) = false := by rw [beq_eq_false_iff_ne]; omega
  have b92 : ((c : Int) == 92) = false := by rw [beq_eq_false_iff_ne]; omega
  have b45 : ((c : Int) == 45) = false := by rw [beq_eq_false_iff_ne]; omega
  have b93 : ((c : Int) == 93) = false := by rw [beq_eq_false_iff_ne]; omega
  have b91 : ((c : Int) == 91) = false := by rw [beq_eq_false_iff_ne]; omega
  obtain ⟨e3, e4, e1, e0⟩ := (hB.st hC).cells
  have HW := Lib.hid (writeRune_any w0.heap.size g (Lib.byteCells bs) c (by omega) (by omega) w hB.Bg (by omega) hsz)
  have hen := en_len c
  clear hC hB hK h0 h92 h45 h93 h91 h1c
  conv => arg 2; whnf
  go_wp2_with fail
  refine HW.out.mono ?_
  rintro e w1 ⟨rfl, hB1, hf1⟩
  rw [en_cells] at hB1
  have HW1 := Lib.hid (HB.out.write (out := en c) hB1 hf1)
  clear hB1 hf1 HB HW e3 e4 e1 e0
  have stt := HW1.out.st HC.out
  obtain ⟨r3, r4, r1, r0⟩ := (stt).cells
  have HN := Lib.hid (next_any ls s i _ stt.L stt.hi (by have := stt.base.hs; omega) stt.base.T)
  clear stt 
  go_wp2_with fail
  refine HN.out.mono ?_
  rintro e wn ⟨rfl, hL, hk⟩
  have HE := Lib.hid (HW1.out.lex hL hj1 (by rw [List.length_append]; omega) hk)
  clear hL hk HN HW1
  go_wp2_with fail
  exact HK.out _ _ _ _ ⟨rfl, rfl, rfl, rfl, rfl, rfl, rfl, rfl, rfl, rfl, rfl, rfl⟩ HE.out
theorem rd_def1 (F : Interp) (B b ls k3 k4 kl g : Nat) (s : ByteArray) (eof : Value) (lit : Nat) (acc : List UInt8) (m : Int) (fil : Bool) (w0 w : World) (c i : Nat) (bs : List UInt8) (sl de ce : Bool) (dv cv : Value) (K : Act → World → Prop) (Q : Exit → Act → World → Prop)
    (hC : BC F B b ls k3 k4 kl s eof acc lit w0) (hB : BS ls s w0 g i bs de ce dv cv w) (h1c : c ≤ 1114111) (h0 : c ≠ 0) (h92 : c ≠ 92) (h45 : c ≠ 45) (h93 : c ≠ 93) (h91 : c ≠ 91) (hl4 : bs.length + 4 ≤ 8 * i) (hfl : fil = true) (h47 : c ≠ 47)
    (hK : ∀ a w' dv' cv', LF m k3 k4 kl g fil (nx s i).1 sl dv' cv' a → BS ls s w0 g (nx s i).2 (bs ++ en c) de ce dv' cv' w' → K ⟨a, []⟩ w') (a : Array Value) (hF : LF m k3 k4 kl g fil c sl dv cv a) :
    Code.wp Tryz.prog brBody (Exit.then K Q) ⟨a, []⟩ w := by
  refine hF.open (C := fun a => Code.wp Tryz.prog brBody (Exit.then K Q) ⟨a, []⟩ w) fun x => ?_
  clear hF a
  have HC := Lib.hid hC
  have HB := Lib.hid hB
  have HK := Lib.hid hK
  obtain ⟨hj0, hj1, hj2⟩ := nx_le s i hB.hi
  have hr := hB.room hC
  have hbl := hB.bl
  have hsz := hB.kp.size
  have hs42 := hC.st.base.hs
  subst hfl
  have b47 : ((c : Int) == 47) = false := by rw [beq_eq_false_iff_ne]; omega
  clear h47
  have b0 : ((c : Int) == 0) = false := by rw [beq_eq_false_iff_ne]; omega
  have b92 : ((c : Int) == 92) = false := by rw [beq_eq_false_iff_ne]; omega
  have b45 : ((c : Int) == 45) = false := by rw [beq_eq_false_iff_ne]; omega
  have b93 : ((c : Int) == 93) = false := by rw [beq_eq_false_iff_ne]; omega
  have b91 : ((c : Int) == 91) = false := by rw [beq_eq_false_iff_ne]; omega
  obtain ⟨e3, e4, e1, e0⟩ := (hB.st hC).cells
  have HW := Lib.hid (writeRune_any w0.heap.size g (Lib.byteCells bs) c (by omega) (by omega) w hB.Bg (by omega) hsz)
  have hen := en_len c
  clear hC hB hK h0 h92 h45 h93 h91 h1c
  conv => arg 2; whnf
  go_wp2_with fail
  refine HW.out.mono ?_
  rintro e w1 ⟨rfl, hB1, hf1⟩
  rw [en_cells] at hB1
  have HW1 := Lib.hid (HB.out.write (out := en c) hB1 hf1)
  clear hB1 hf1 HB HW e3 e4 e1 e0
  have stt := HW1.out.st HC.out
  obtain ⟨r3, r4, r1, r0⟩ := (stt).cells
  have HN := Lib.hid (next_any ls s i _ stt.L stt.hi (by have := stt.base.hs; omega) stt.base.T)
  clear stt 
  go_wp2_with fail
  refine HN.out.mono ?_
  rintro e wn ⟨rfl, hL, hk⟩
  have HE := Lib.hid (HW1.out.lex hL hj1 (by rw [List.length_append]; omega) hk)
  clear hL hk HN HW1
  go_wp2_with fail
  exact HK.out _ _ _ _ ⟨rfl, rfl, rfl, rfl, rfl, rfl, rfl, rfl, rfl, rfl, rfl, rfl⟩ HE.out
theorem rd_def2 (F : Interp) (B b ls k3 k4 kl g : Nat) (s : ByteArray) (eof : Value) (lit : Nat) (acc : List UInt8) (m : Int) (fil : Bool) (w0 w : World) (c i : Nat) (bs : List UInt8) (sl de ce : Bool) (dv cv : Value) (K : Act → World → Prop) (Q : Exit → Act → World → Prop)
    (hC : BC F B b ls k3 k4 kl s eof acc lit w0) (hB : BS ls s w0 g i bs de ce dv cv w) (h1c : c ≤ 1114111) (h0 : c ≠ 0) (h92 : c ≠ 92) (h45 : c ≠ 45) (h93 : c ≠ 93) (h91 : c ≠ 91) (hl4 : bs.length + 4 ≤ 8 * i) (hfl : fil = true) (h47 : c = 47)
    (hK : ∀ a w' dv' cv', LF m k3 k4 kl g fil (nx s i).1 true dv' cv' a → BS ls s w0 g (nx s i).2 (bs ++ en c) de ce dv' cv' w' → K ⟨a, []⟩ w') (a : Array Value) (hF : LF m k3 k4 kl g fil c sl dv cv a) :
    Code.wp Tryz.prog brBody (Exit.then K Q) ⟨a, []⟩ w := by
  refine hF.open (C := fun a => Code.wp Tryz.prog brBody (Exit.then K Q) ⟨a, []⟩ w) fun x => ?_
  clear hF a
  have HC := Lib.hid hC
  have HB := Lib.hid hB
  have HK := Lib.hid hK
  obtain ⟨hj0, hj1, hj2⟩ := nx_le s i hB.hi
  have hr := hB.room hC
  have hbl := hB.bl
  have hsz := hB.kp.size
  have hs42 := hC.st.base.hs
  subst hfl
  have b47 : ((c : Int) == 47) = true := by rw [h47]; rfl
  clear h47
  have b0 : ((c : Int) == 0) = false := by rw [beq_eq_false_iff_ne]; omega
  have b92 : ((c : Int) == 92) = false := by rw [beq_eq_false_iff_ne]; omega
  have b45 : ((c : Int) == 45) = false := by rw [beq_eq_false_iff_ne]; omega
  have b93 : ((c : Int) == 93) = false := by rw [beq_eq_false_iff_ne]; omega
  have b91 : ((c : Int) == 91) = false := by rw [beq_eq_false_iff_ne]; omega
  obtain ⟨e3, e4, e1, e0⟩ := (hB.st hC).cells
  have HW := Lib.hid (writeRune_any w0.heap.size g (Lib.byteCells bs) c (by omega) (by omega) w hB.Bg (by omega) hsz)
  have hen := en_len c
  clear hC hB hK h0 h92 h45 h93 h91 h1c
  conv => arg 2; whnf
  go_wp2_with fail
  refine HW.out.mono ?_
  rintro e w1 ⟨rfl, hB1, hf1⟩
  rw [en_cells] at hB1
  have HW1 := Lib.hid (HB.out.write (out := en c) hB1 hf1)
  clear hB1 hf1 HB HW e3 e4 e1 e0
  have stt := HW1.out.st HC.out
  obtain ⟨r3, r4, r1, r0⟩ := (stt).cells
  have HN := Lib.hid (next_any ls s i _ stt.L stt.hi (by have := stt.base.hs; omega) stt.base.T)
  clear stt 
  go_wp2_with fail
  refine HN.out.mono ?_
  rintro e wn ⟨rfl, hL, hk⟩
  have HE := Lib.hid (HW1.out.lex hL hj1 (by rw [List.length_append]; omega) hk)
  clear hL hk HN HW1
  go_wp2_with fail
  exact HK.out _ _ _ _ ⟨rfl, rfl, rfl, rfl, rfl, rfl, rfl, rfl, rfl, rfl, rfl, rfl⟩ HE.out
end Go.Proofs.YtpfgmiocdgfniaaGreatFmt

namespace Go.Proofs.YtpfgmiocdgfniaaGreatFmt
open Go.RowKit Go.Extern.Stop Go.Stop Go.Extern
theorem rd_end1 (F : Interp) (B b ls k3 k4 kl g : Nat) (s : ByteArray) (eof : Value) (lit : Nat) (acc : List UInt8) (m : Int) (fil : Bool) (w0 w : World) (c i : Nat) (bs : List UInt8) (sl de ce : Bool) (dv cv : Value) (wS : World) (Post : Ending → World → Prop) (K : Act → World → Prop) (Q : Exit → Act → World → Prop)
    (hC : BC F B b ls k3 k4 kl s eof acc lit w0) (hB : BS ls s w0 g i bs de ce dv cv w) (hks : Kp (XX ls B b wS) wS w0) (hQ : RetQ Q Post) (hc : c = 0) (hce : ce = true) (hP : RPost B b ls s eof acc wS ⟨3, 0, i, []⟩ Post) (a : Array Value) (hF : LF m k3 k4 kl g fil c sl dv cv a) :
    Code.wp Tryz.prog brBody (Exit.then K Q) ⟨a, []⟩ w := by
  refine hF.open (C := fun a => Code.wp Tryz.prog brBody (Exit.then K Q) ⟨a, []⟩ w) fun x => ?_
  clear hF a
  subst hc
  subst hce
  have HP := Lib.hid hP
  have HQ := Lib.hid hQ
  have hst := hB.st hC
  have hsy := hB.C.1 rfl
  have HE := Lib.hid (hP.use hst.L (by rw [List.append_nil]; exact hst.Bd) (hks.XXls hB.kp) (err3 hsy))
  obtain ⟨p, mm, u, rfl, hp, hu⟩ := hsy
  clear hC hB hst hP hks hQ hp hu HP
  conv => arg 2; whnf
  go_wp2_with fail
  exact HQ.out.use rfl rfl HE.out
theorem rd_end0 (F : Interp) (B b ls k3 k4 kl g : Nat) (s : ByteArray) (eof : Value) (lit : Nat) (acc : List UInt8) (m : Int) (fil : Bool) (w0 w : World) (c i : Nat) (bs : List UInt8) (sl de ce : Bool) (dv cv : Value) (wS : World) (Post : Ending → World → Prop) (K : Act → World → Prop) (Q : Exit → Act → World → Prop)
    (hC : BC F B b ls k3 k4 kl s eof acc lit w0) (hB : BS ls s w0 g i bs de ce dv cv w) (hks : Kp (XX ls B b wS) wS w0) (hQ : RetQ Q Post) (hc : c = 0) (hce : ce = false) (hP : RPost B b ls s eof acc wS (litB lit) Post) (a : Array Value) (hF : LF m k3 k4 kl g fil c sl dv cv a) :
    Code.wp Tryz.prog brBody (Exit.then K Q) ⟨a, []⟩ w := by
  refine hF.open (C := fun a => Code.wp Tryz.prog brBody (Exit.then K Q) ⟨a, []⟩ w) fun x => ?_
  clear hF a
  subst hc
  subst hce
  have HP := Lib.hid hP
  have HQ := Lib.hid hQ
  have hst := hB.st hC
  obtain rfl := hB.C.2 rfl
  have HL := Lib.hid (litB_any F B b ls k3 k4 kl s eof i lit acc w hst (hB.klc hC) hC.st.hi hC.len)
  have HKS := Lib.hid (hks.XXls hB.kp)
  clear hC hB hst hP hks hQ
  conv => arg 2; whnf
  go_wp2_with fail
  refine HL.out.mono ?_
  rintro e w' ⟨rfl, hs', hk'⟩
  have HE := Lib.hid (HP.out.use hs'.L hs'.Bd (HKS.out.XXcall hk') (err0 _ _ _ _))
  clear hs' hk' HP HKS HL
  go_wp2_with fail
  exact HQ.out.use rfl rfl HE.out
end Go.Proofs.YtpfgmiocdgfniaaGreatFmt

namespace Go.Proofs.YtpfgmiocdgfniaaGreatFmt
open Go.RowKit Go.Extern.Stop Go.Stop Go.Extern
theorem rq_en_len (c : Nat) : (rq (en c)).length ≤ 8 := by
  have h := rq_len (en c)
  have := en_len c
  omega
theorem rd_esc0 (F : Interp) (B b ls k3 k4 kl g : Nat) (s : ByteArray) (eof : Value) (lit : Nat) (acc : List UInt8) (m : Int) (fil : Bool) (w0 w : World) (c i : Nat) (bs : List UInt8) (sl de ce : Bool) (dv cv : Value) (K : Act → World → Prop) (Q : Exit → Act → World → Prop)
    (hC : BC F B b ls k3 k4 kl s eof acc lit w0) (hB : BS ls s w0 g i bs de ce dv cv w) (hc : c = 92) (i1 : Nat) (hn : nx s i = (0, i1)) (hii : i ≤ i1)
    (hK : ∀ a w' dv' cv', LF m k3 k4 kl g fil 0 sl dv' cv' a → BS ls s w0 g i1 bs de ce dv' cv' w' → K ⟨a, []⟩ w') (a : Array Value) (hF : LF m k3 k4 kl g fil c sl dv cv a) :
    Code.wp Tryz.prog brBody (Exit.then K Q) ⟨a, []⟩ w := by
  refine hF.open (C := fun a => Code.wp Tryz.prog brBody (Exit.then K Q) ⟨a, []⟩ w) fun x => ?_
  clear hF a
  have HC := Lib.hid hC
  have HB := Lib.hid hB
  have HK := Lib.hid hK
  obtain ⟨hi0, hi1, hi2⟩ := nx_le s i hB.hi
  have HN0 := Lib.hid (next_any ls s i w hB.L hB.hi (by have := hC.st.base.hs; omega) (hB.st hC).base.T)
  rw [hn] at HN0 hi0 hi1 hi2
  dsimp only at HN0 hi0 hi1 hi2
  subst hc
  obtain ⟨e3, e4, e1, e0⟩ := (hB.st hC).cells
  clear hC hB hK hn
  conv => arg 2; whnf
  go_wp2_with fail
  refine HN0.out.mono ?_
  rintro e w1 ⟨rfl, hL1, hk1⟩
  have HE := Lib.hid (HB.out.lex hL1 hi1 hii hk1)
  clear hL1 hk1 HN0 HB e3 e4 e1 e0
  go_wp2_with fail
  exact HK.out _ _ _ _ ⟨rfl, rfl, rfl, rfl, rfl, rfl, rfl, rfl, rfl, rfl, rfl, rfl⟩ HE.out
theorem rd_esc45 (F : Interp) (B b ls k3 k4 kl g : Nat) (s : ByteArray) (eof : Value) (lit : Nat) (acc : List UInt8) (m : Int) (fil : Bool) (w0 w : World) (c i : Nat) (bs : List UInt8) (sl de ce : Bool) (dv cv : Value) (K : Act → World → Prop) (Q : Exit → Act → World → Prop)
    (hC : BC F B b ls k3 k4 kl s eof acc lit w0) (hB : BS ls s w0 g i bs de ce dv cv w) (hc : c = 92) (c1 i1 : Nat) (hn : nx s i = (c1, i1)) (hl8 : bs.length + 8 ≤ 8 * i) (hii : i < i1) (h1 : c1 = 45)
    (hK : ∀ a w' dv' cv', LF m k3 k4 kl g fil (nx s i1).1 sl dv' cv' a → BS ls s w0 g (nx s i1).2 (bs ++ [92, 45]) de ce dv' cv' w' → K ⟨a, []⟩ w') (a : Array Value) (hF : LF m k3 k4 kl g fil c sl dv cv a) :
    Code.wp Tryz.prog brBody (Exit.then K Q) ⟨a, []⟩ w := by
  refine hF.open (C := fun a => Code.wp Tryz.prog brBody (Exit.then K Q) ⟨a, []⟩ w) fun x => ?_
  clear hF a
  have HC := Lib.hid hC
  have HB := Lib.hid hB
  have HK := Lib.hid hK
  obtain ⟨hi0, hi1, hi2⟩ := nx_le s i hB.hi
  have HN0 := Lib.hid (next_any ls s i w hB.L hB.hi (by have := hC.st.base.hs; omega) (hB.st hC).base.T)
  rw [hn] at HN0 hi0 hi1 hi2
  dsimp only at HN0 hi0 hi1 hi2
  obtain ⟨hj0, hj1, hj2⟩ := nx_le s i1 hi1
  have hr := hB.room hC
  have hbl := hB.bl
  have hsz := hB.kp.size
  have hs42 := hC.st.base.hs
  subst hc
  obtain ⟨e3, e4, e1, e0⟩ := (hB.st hC).cells
  subst h1
  clear hC hB hK hn
  conv => arg 2; whnf
  go_wp2_with fail
  refine HN0.out.mono ?_
  rintro e w1 ⟨rfl, hL1, hk1⟩
  have hB1 := HB.out.lex hL1 hi1 (by omega) hk1
  obtain ⟨f3, f4, f1, f0⟩ := (hB1.st HC.out).cells
  have HB1 := Lib.hid hB1
  have hsz1 := hB1.kp.size
  have hr1 := hB1.room HC.out
  clear hL1 hk1 HN0 HB e3 e4 e1 e0 hsz hr
  have HW := Lib.hid (writeString_any w0.heap.size g (Lib.byteCells bs) ⟨#[92, 45]⟩ w1 hB1.Bg (by simp [ByteArray.size]; omega) hsz1)
  clear hB1
  go_wp2_with fail
  refine HW.out.mono ?_
  rintro e w2 ⟨rfl, hB2, hf2⟩
  have HW1 := Lib.hid (HB1.out.write (out := [92, 45]) hB2 hf2)
  clear hB2 hf2 HB1 HW f3 f4 f1 f0
  have stt := HW1.out.st HC.out
  obtain ⟨r3, r4, r1, r0⟩ := (stt).cells
  have HN := Lib.hid (next_any ls s i1 _ stt.L stt.hi (by have := stt.base.hs; omega) stt.base.T)
  clear stt 
  go_wp2_with fail
  refine HN.out.mono ?_
  rintro e wn ⟨rfl, hL, hk⟩
  have HE := Lib.hid (HW1.out.lex hL hj1 (by rw [List.length_append]; simp only [List.length_cons, List.length_nil]; omega) hk)
  clear hL hk HN HW1
  go_wp2_with fail
  exact HK.out _ _ _ _ ⟨rfl, rfl, rfl, rfl, rfl, rfl, rfl, rfl, rfl, rfl, rfl, rfl⟩ HE.out
theorem rd_escG (F : Interp) (B b ls k3 k4 kl g : Nat) (s : ByteArray) (eof : Value) (lit : Nat) (acc : List UInt8) (m : Int) (fil : Bool) (w0 w : World) (c i : Nat) (bs : List UInt8) (sl de ce : Bool) (dv cv : Value) (K : Act → World → Prop) (Q : Exit → Act → World → Prop)
    (hC : BC F B b ls k3 k4 kl s eof acc lit w0) (hB : BS ls s w0 g i bs de ce dv cv w) (hc : c = 92) (c1 i1 : Nat) (hn : nx s i = (c1, i1)) (hl8 : bs.length + 8 ≤ 8 * i) (hii : i < i1) (h1 : 128 < c1)
    (hK : ∀ a w' dv' cv', LF m k3 k4 kl g fil (nx s i1).1 sl dv' cv' a → BS ls s w0 g (nx s i1).2 (bs ++ en c1) de ce dv' cv' w' → K ⟨a, []⟩ w') (a : Array Value) (hF : LF m k3 k4 kl g fil c sl dv cv a) :
    Code.wp Tryz.prog brBody (Exit.then K Q) ⟨a, []⟩ w := by
  refine hF.open (C := fun a => Code.wp Tryz.prog brBody (Exit.then K Q) ⟨a, []⟩ w) fun x => ?_
  clear hF a
  have HC := Lib.hid hC
  have HB := Lib.hid hB
  have HK := Lib.hid hK
  obtain ⟨hi0, hi1, hi2⟩ := nx_le s i hB.hi
  have HN0 := Lib.hid (next_any ls s i w hB.L hB.hi (by have := hC.st.base.hs; omega) (hB.st hC).base.T)
  rw [hn] at HN0 hi0 hi1 hi2
  dsimp only at HN0 hi0 hi1 hi2
  obtain ⟨hj0, hj1, hj2⟩ := nx_le s i1 hi1
  have hr := hB.room hC
  have hbl := hB.bl
  have hsz := hB.kp.size
  have hs42 := hC.st.base.hs
  subst hc
  obtain ⟨e3, e4, e1, e0⟩ := (hB.st hC).cells
  have hg1 : (128 : Int) < (c1 : Int) := by omega
  have b0 : ((c1 : Int) == 0) = false := by rw [beq_eq_false_iff_ne]; omega
  have b45 : ((c1 : Int) == 45) = false := by rw [beq_eq_false_iff_ne]; omega
  clear hC hB hK hn
  conv => arg 2; whnf
  go_wp2_with fail
  refine HN0.out.mono ?_
  rintro e w1 ⟨rfl, hL1, hk1⟩
  have hB1 := HB.out.lex hL1 hi1 (by omega) hk1
  obtain ⟨f3, f4, f1, f0⟩ := (hB1.st HC.out).cells
  have HB1 := Lib.hid hB1
  have hsz1 := hB1.kp.size
  have hr1 := hB1.room HC.out
  clear hL1 hk1 HN0 HB e3 e4 e1 e0 hsz hr
  have HW := Lib.hid (writeRune_any w0.heap.size g (Lib.byteCells bs) c1 (by omega) (by omega) w1 hB1.Bg (by omega) hsz1)
  clear hB1 h1
  go_wp2_with fail
  refine HW.out.mono ?_
  rintro e w2 ⟨rfl, hB2, hf2⟩
  rw [en_cells] at hB2
  have HW1 := Lib.hid (HB1.out.write (out := en c1) hB2 hf2)
  clear hB2 hf2 HB1 HW f3 f4 f1 f0
  have stt := HW1.out.st HC.out
  obtain ⟨r3, r4, r1, r0⟩ := (stt).cells
  have HN := Lib.hid (next_any ls s i1 _ stt.L stt.hi (by have := stt.base.hs; omega) stt.base.T)
  clear stt 
  go_wp2_with fail
  refine HN.out.mono ?_
  rintro e wn ⟨rfl, hL, hk⟩
  have HE := Lib.hid (HW1.out.lex hL hj1 (by rw [List.length_append]; have := en_len c1; omega) hk)
  clear hL hk HN HW1
  go_wp2_with fail
  exact HK.out _ _ _ _ ⟨rfl, rfl, rfl, rfl, rfl, rfl, rfl, rfl, rfl, rfl, rfl, rfl⟩ HE.out
end Go.Proofs.YtpfgmiocdgfniaaGreatFmt
