/- Joined by pack.py: BrD, BrF, BrFx. -/
import Derived.Test.YtpfgmiocdgfniaaGreatFmtP08
set_option linter.unusedVariables false
set_option maxHeartbeats 8000000
set_option maxRecDepth 1000000
namespace Go.Proofs.YtpfgmiocdgfniaaGreatFmt
open Go.RowKit Go.Extern.Stop Go.Stop Go.Extern
theorem rd_escD0 (F : Interp) (B b ls k3 k4 kl g : Nat) (s : ByteArray) (eof : Value) (lit : Nat) (acc : List UInt8) (m : Int) (fil : Bool) (w0 w : World) (c i : Nat) (bs : List UInt8) (sl de ce : Bool) (dv cv : Value) (K : Act → World → Prop) (Q : Exit → Act → World → Prop)
    (hC : BC F B b ls k3 k4 kl s eof acc lit w0) (hB : BS ls s w0 g i bs de ce dv cv w) (hc : c = 92) (c1 i1 : Nat) (hn : nx s i = (c1, i1)) (hl8 : bs.length + 8 ≤ 8 * i) (hii : i < i1) (h0 : c1 ≠ 0) (h45 : c1 ≠ 45) (h128 : ¬ 128 < c1) (hfl : fil = false)
    (hK : ∀ a w' dv' cv', LF m k3 k4 kl g fil (nx s i1).1 sl dv' cv' a → BS ls s w0 g (nx s i1).2 (bs ++ rq (en c1)) de ce dv' cv' w' → K ⟨a, []⟩ w') (a : Array Value) (hF : LF m k3 k4 kl g fil c sl dv cv a) :
    Code.wp Tryz.prog brBody (Exit.then K Q) ⟨a, []⟩ w := by
  refine hF.open (C := fun a => Code.wp Tryz.prog brBody (Exit.then K Q) ⟨a, []⟩ w) fun x => ?_
  clear hF a
  have HC := Lib.hid hC
  have HB := Lib.hid hB
  have HK := Lib.hid hK
  obtain ⟨hi0, hi1, hi2⟩ := nx_le s i hB.hi
  have HN0 := Lib.hid (next_any ls s i w hB.L hB.hi (by have := hC.st.base.hs; omega) (hB.st hC).base.T)
  rw [hn] at HN0 hi0 hi1 hi2
  dsimp only at HN0 hi0 hi1 hi2
  obtain ⟨hj0, hj1, hj2⟩ := nx_le s i1 hi1
  have hr := hB.room hC
  have hbl := hB.bl
  have hsz := hB.kp.size
  have hs42 := hC.st.base.hs
  subst hc
  obtain ⟨e3, e4, e1, e0⟩ := (hB.st hC).cells
  have hg1 : ¬ (128 : Int) < (c1 : Int) := by omega
  have b0 : ((c1 : Int) == 0) = false := by rw [beq_eq_false_iff_ne]; omega
  have b45 : ((c1 : Int) == 45) = false := by rw [beq_eq_false_iff_ne]; omega
  subst hfl
  clear hC hB hK hn
  conv => arg 2; whnf
  go_wp2_with fail
  refine HN0.out.mono ?_
  rintro e w1 ⟨rfl, hL1, hk1⟩
  have hB1 := HB.out.lex hL1 hi1 (by omega) hk1
  obtain ⟨f3, f4, f1, f0⟩ := (hB1.st HC.out).cells
  have HB1 := Lib.hid hB1
  have hsz1 := hB1.kp.size
  have hr1 := hB1.room HC.out
  clear hL1 hk1 HN0 HB e3 e4 e1 e0 hsz hr
  clear hB1 h0 h45 h128
  go_wp2_with fail
  refine (zzQuoteMeta_any _ _ (enc_size c1)).mono ?_
  rintro e w2 ⟨rfl, hb2⟩
  have hB2 := HB1.out.below hb2
  have HW := Lib.hid (writeString_any w0.heap.size g (Lib.byteCells bs) ⟨(rq (Utf8.encode (c1 : Int)).data.toList).toArray⟩ w2 hB2.Bg (by have := rq_size c1; omega) hB2.kp.size)
  have HB2 := Lib.hid hB2
  clear hB2 hb2 HB1 f3 f4 f1 f0
  go_wp2_with fail
  refine HW.out.mono ?_
  rintro e w3 ⟨rfl, hB3, hf3⟩
  rw [rq_cells] at hB3
  have HW1 := Lib.hid (HB2.out.write (out := rq (en c1)) hB3 hf3)
  clear hB3 hf3 HB2 HW
  have stt := HW1.out.st HC.out
  obtain ⟨r3, r4, r1, r0⟩ := (stt).cells
  have HN := Lib.hid (next_any ls s i1 _ stt.L stt.hi (by have := stt.base.hs; omega) stt.base.T)
  clear stt 
  go_wp2_with fail
  refine HN.out.mono ?_
  rintro e wn ⟨rfl, hL, hk⟩
  have HE := Lib.hid (HW1.out.lex hL hj1 (by rw [List.length_append]; have := rq_en_len c1; omega) hk)
  clear hL hk HN HW1
  go_wp2_with fail
  exact HK.out _ _ _ _ ⟨rfl, rfl, rfl, rfl, rfl, rfl, rfl, rfl, rfl, rfl, rfl, rfl⟩ HE.out
theorem rd_escD1 (F : Interp) (B b ls k3 k4 kl g : Nat) (s : ByteArray) (eof : Value) (lit : Nat) (acc : List UInt8) (m : Int) (fil : Bool) (w0 w : World) (c i : Nat) (bs : List UInt8) (sl de ce : Bool) (dv cv : Value) (K : Act → World → Prop) (Q : Exit → Act → World → Prop)
    (hC : BC F B b ls k3 k4 kl s eof acc lit w0) (hB : BS ls s w0 g i bs de ce dv cv w) (hc : c = 92) (c1 i1 : Nat) (hn : nx s i = (c1, i1)) (hl8 : bs.length + 8 ≤ 8 * i) (hii : i < i1) (h0 : c1 ≠ 0) (h45 : c1 ≠ 45) (h128 : ¬ 128 < c1) (hfl : fil = true) (h47 : c1 ≠ 47)
    (hK : ∀ a w' dv' cv', LF m k3 k4 kl g fil (nx s i1).1 sl dv' cv' a → BS ls s w0 g (nx s i1).2 (bs ++ rq (en c1)) de ce dv' cv' w' → K ⟨a, []⟩ w') (a : Array Value) (hF : LF m k3 k4 kl g fil c sl dv cv a) :
    Code.wp Tryz.prog brBody (Exit.then K Q) ⟨a, []⟩ w := by
  refine hF.open (C := fun a => Code.wp Tryz.prog brBody (Exit.then K Q) ⟨a, []⟩ w) fun x => ?_
  clear hF a
  have HC := Lib.hid hC
  have HB := Lib.hid hB
  have HK := Lib.hid hK
  obtain ⟨hi0, hi1, hi2⟩ := nx_le s i hB.hi
  have HN0 := Lib.hid (next_any ls s i w hB.L hB.hi (by have := hC.st.base.hs; omega) (hB.st hC).base.T)
  rw [hn] at HN0 hi0 hi1 hi2
  dsimp only at HN0 hi0 hi1 hi2
  obtain ⟨hj0, hj1, hj2⟩ := nx_le s i1 hi1
  have hr := hB.room hC
  have hbl := hB.bl
  have hsz := hB.kp.size
  have hs42 := hC.st.base.hs
  subst hc
  obtain ⟨e3, e4, e1, e0⟩ := (hB.st hC).cells
  have hg1 : ¬ (128 : Int) < (c1 : Int) := by omega
  have b0 : ((c1 : Int) == 0) = false := by rw [beq_eq_false_iff_ne]; omega
  have b45 : ((c1 : Int) == 45) = false := by rw [beq_eq_false_iff_ne]; omega
  subst hfl
  have b47 : ((c1 : Int) == 47) = false := by rw [beq_eq_false_iff_ne]; omega
  clear h47
  clear hC hB hK hn
  conv => arg 2; whnf
  go_wp2_with fail
  refine HN0.out.mono ?_
  rintro e w1 ⟨rfl, hL1, hk1⟩
  have hB1 := HB.out.lex hL1 hi1 (by omega) hk1
  obtain ⟨f3, f4, f1, f0⟩ := (hB1.st HC.out).cells
  have HB1 := Lib.hid hB1
  have hsz1 := hB1.kp.size
  have hr1 := hB1.room HC.out
  clear hL1 hk1 HN0 HB e3 e4 e1 e0 hsz hr
  clear hB1 h0 h45 h128
  go_wp2_with fail
  refine (zzQuoteMeta_any _ _ (enc_size c1)).mono ?_
  rintro e w2 ⟨rfl, hb2⟩
  have hB2 := HB1.out.below hb2
  have HW := Lib.hid (writeString_any w0.heap.size g (Lib.byteCells bs) ⟨(rq (Utf8.encode (c1 : Int)).data.toList).toArray⟩ w2 hB2.Bg (by have := rq_size c1; omega) hB2.kp.size)
  have HB2 := Lib.hid hB2
  clear hB2 hb2 HB1 f3 f4 f1 f0
  go_wp2_with fail
  refine HW.out.mono ?_
  rintro e w3 ⟨rfl, hB3, hf3⟩
  rw [rq_cells] at hB3
  have HW1 := Lib.hid (HB2.out.write (out := rq (en c1)) hB3 hf3)
  clear hB3 hf3 HB2 HW
  have stt := HW1.out.st HC.out
  obtain ⟨r3, r4, r1, r0⟩ := (stt).cells
  have HN := Lib.hid (next_any ls s i1 _ stt.L stt.hi (by have := stt.base.hs; omega) stt.base.T)
  clear stt 
  go_wp2_with fail
  refine HN.out.mono ?_
  rintro e wn ⟨rfl, hL, hk⟩
  have HE := Lib.hid (HW1.out.lex hL hj1 (by rw [List.length_append]; have := rq_en_len c1; omega) hk)
  clear hL hk HN HW1
  go_wp2_with fail
  exact HK.out _ _ _ _ ⟨rfl, rfl, rfl, rfl, rfl, rfl, rfl, rfl, rfl, rfl, rfl, rfl⟩ HE.out
theorem rd_escD2 (F : Interp) (B b ls k3 k4 kl g : Nat) (s : ByteArray) (eof : Value) (lit : Nat) (acc : List UInt8) (m : Int) (fil : Bool) (w0 w : World) (c i : Nat) (bs : List UInt8) (sl de ce : Bool) (dv cv : Value) (K : Act → World → Prop) (Q : Exit → Act → World → Prop)
    (hC : BC F B b ls k3 k4 kl s eof acc lit w0) (hB : BS ls s w0 g i bs de ce dv cv w) (hc : c = 92) (c1 i1 : Nat) (hn : nx s i = (c1, i1)) (hl8 : bs.length + 8 ≤ 8 * i) (hii : i < i1) (h0 : c1 ≠ 0) (h45 : c1 ≠ 45) (h128 : ¬ 128 < c1) (hfl : fil = true) (h47 : c1 = 47)
    (hK : ∀ a w' dv' cv', LF m k3 k4 kl g fil (nx s i1).1 true dv' cv' a → BS ls s w0 g (nx s i1).2 (bs ++ rq (en c1)) de ce dv' cv' w' → K ⟨a, []⟩ w') (a : Array Value) (hF : LF m k3 k4 kl g fil c sl dv cv a) :
    Code.wp Tryz.prog brBody (Exit.then K Q) ⟨a, []⟩ w := by
  refine hF.open (C := fun a => Code.wp Tryz.prog brBody (Exit.then K Q) ⟨a, []⟩ w) fun x => ?_
  clear hF a
  have HC := Lib.hid hC
  have HB := Lib.hid hB
  have HK := Lib.hid hK
  obtain ⟨hi0, hi1, hi2⟩ := nx_le s i hB.hi
  have HN0 := Lib.hid (next_any ls s i w hB.L hB.hi (by have := hC.st.base.hs; omega) (hB.st hC).base.T)
  rw [hn] at HN0 hi0 hi1 hi2
  dsimp only at HN0 hi0 hi1 hi2
  obtain ⟨hj0, hj1, hj2⟩ := nx_le s i1 hi1
  have hr := hB.room hC
  have hbl := hB.bl
  have hsz := hB.kp.size
  have hs42 := hC.st.base.hs
  subst hc
  obtain ⟨e3, e4, e1, e0⟩ := (hB.st hC).cells
  have hg1 : ¬ (128 : Int) < (c1 : Int) := by omega
  have b0 : ((c1 : Int) == 0) = false := by rw [beq_eq_false_iff_ne]; omega
  have b45 : ((c1 : Int) == 45) = false := by rw [beq_eq_false_iff_ne]; omega
  subst hfl
  have b47 : ((c1 : Int) == 47) = true := by rw [h47]; rfl
  clear h47
  clear hC hB hK hn
  conv => arg 2; whnf
  go_wp2_with fail
  refine HN0.out.mono ?_
  rintro e w1 ⟨rfl, hL1, hk1⟩
  have hB1 := HB.out.lex hL1 hi1 (by omega) hk1
  obtain ⟨f3, f4, f1, f0⟩ := (hB1.st HC.out).cells
  have HB1 := Lib.hid hB1
  have hsz1 := hB1.kp.size
  have hr1 := hB1.room HC.out
  clear hL1 hk1 HN0 HB e3 e4 e1 e0 hsz hr
  clear hB1 h0 h45 h128
  go_wp2_with fail
  refine (zzQuoteMeta_any _ _ (enc_size c1)).mono ?_
  rintro e w2 ⟨rfl, hb2⟩
  have hB2 := HB1.out.below hb2
  have HW := Lib.hid (writeString_any w0.heap.size g (Lib.byteCells bs) ⟨(rq (Utf8.encode (c1 : Int)).data.toList).toArray⟩ w2 hB2.Bg (by have := rq_size c1; omega) hB2.kp.size)
  have HB2 := Lib.hid hB2
  clear hB2 hb2 HB1 f3 f4 f1 f0
  go_wp2_with fail
  refine HW.out.mono ?_
  rintro e w3 ⟨rfl, hB3, hf3⟩
  rw [rq_cells] at hB3
  have HW1 := Lib.hid (HB2.out.write (out := rq (en c1)) hB3 hf3)
  clear hB3 hf3 HB2 HW
  have stt := HW1.out.st HC.out
  obtain ⟨r3, r4, r1, r0⟩ := (stt).cells
  have HN := Lib.hid (next_any ls s i1 _ stt.L stt.hi (by have := stt.base.hs; omega) stt.base.T)
  clear stt 
  go_wp2_with fail
  refine HN.out.mono ?_
  rintro e wn ⟨rfl, hL, hk⟩
  have HE := Lib.hid (HW1.out.lex hL hj1 (by rw [List.length_append]; have := rq_en_len c1; omega) hk)
  clear hL hk HN HW1
  go_wp2_with fail
  exact HK.out _ _ _ _ ⟨rfl, rfl, rfl, rfl, rfl, rfl, rfl, rfl, rfl, rfl, rfl, rfl⟩ HE.out
end Go.Proofs.YtpfgmiocdgfniaaGreatFmt

namespace Go.Proofs.YtpfgmiocdgfniaaGreatFmt
open Go.RowKit Go.Extern.Stop Go.Stop Go.Extern
theorem rd_dash93 (F : Interp) (B b ls k3 k4 kl g : Nat) (s : ByteArray) (eof : Value) (lit : Nat) (acc : List UInt8) (m : Int) (fil : Bool) (w0 w : World) (c i : Nat) (bs : List UInt8) (sl de ce : Bool) (dv cv : Value) (K : Act → World → Prop) (Q : Exit → Act → World → Prop)
    (hC : BC F B b ls k3 k4 kl s eof acc lit w0) (hB : BS ls s w0 g i bs de ce dv cv w) (hc : c = 45) (hl8 : bs.length + 8 ≤ 8 * i) (h93 : (nx s i).1 = 93)
    (hK : ∀ a w' dv' cv', LF m k3 k4 kl g fil (nx s i).1 sl dv' cv' a → BS ls s w0 g (nx s i).2 (bs ++ [45]) de ce dv' cv' w' → K ⟨a, []⟩ w') (a : Array Value) (hF : LF m k3 k4 kl g fil c sl dv cv a) :
    Code.wp Tryz.prog brBody (Exit.then K Q) ⟨a, []⟩ w := by
  refine hF.open (C := fun a => Code.wp Tryz.prog brBody (Exit.then K Q) ⟨a, []⟩ w) fun x => ?_
  clear hF a
  have HC := Lib.hid hC
  have HB := Lib.hid hB
  have HK := Lib.hid hK
  obtain ⟨hj0, hj1, hj2⟩ := nx_le s i hB.hi
  have hr := hB.room hC
  have hbl := hB.bl
  have hsz := hB.kp.size
  have hs42 := hC.st.base.hs
  subst hc
  obtain ⟨e3, e4, e1, e0⟩ := (hB.st hC).cells
  have h93b : (((nx s i).1 : Int) != 93) = false := by rw [h93]; rfl
  clear h93
  have HW := Lib.hid (writeByte_any w0.heap.size g (Lib.byteCells bs) 45 w hB.Bg (by omega) hsz)
  clear hC hB hK
  conv => arg 2; whnf
  go_wp2_with fail
  refine HW.out.mono ?_
  rintro e w1 ⟨rfl, hB1, hf1⟩
  have hW1 := HB.out.write (out := [45]) hB1 hf1
  obtain ⟨f3, f4, f1, f0⟩ := (hW1.st HC.out).cells
  have HLA := Lib.hid (last_any ls s i w1 hW1.L hW1.hi (by omega) (hW1.st HC.out).base.T)
  have HW1 := Lib.hid (hW1.toB (by rw [List.length_append]; simp only [List.length_cons, List.length_nil]; omega))
  clear hB1 hf1 HB HW e3 e4 e1 e0 hW1
  go_wp2_with fail
  refine HLA.out.mono ?_
  rintro e w2 ⟨rfl, hb2⟩
  have hB2 := HW1.out.below hb2
  obtain ⟨h3, h4, h1, h0⟩ := (hB2.st HC.out).cells
  have HPK := Lib.hid (peekNext_any ls s i w2 hB2.L hB2.hi (by omega) (hB2.st HC.out).base.T)
  have HB2 := Lib.hid hB2
  clear hB2 hb2 HW1 HLA f3 f4 f1 f0
  go_wp2_with fail
  refine HPK.out.mono ?_
  rintro e w3 ⟨rfl, hb3⟩
  have hB3 := HB2.out.below hb3
  obtain ⟨q3, q4, q1, q0⟩ := (hB3.st HC.out).cells
  have HF3 := Lib.hid (hB3.st HC.out).base.F
  have HB3 := Lib.hid hB3
  clear hB3 hb3 HB2 HPK h3 h4 h1 h0
  have stt := HB3.out.st HC.out
  obtain ⟨r3, r4, r1, r0⟩ := (stt).cells
  have HN := Lib.hid (next_any ls s i _ stt.L stt.hi (by have := stt.base.hs; omega) stt.base.T)
  clear stt 
  go_wp2_with fail
  refine HN.out.mono ?_
  rintro e wn ⟨rfl, hL, hk⟩
  have HE := Lib.hid (HB3.out.lex hL hj1 (by omega) hk)
  clear hL hk HN HB3
  go_wp2_with fail
  exact HK.out _ _ _ _ ⟨rfl, rfl, rfl, rfl, rfl, rfl, rfl, rfl, rfl, rfl, rfl, rfl⟩ HE.out
theorem rd_dashOk (F : Interp) (B b ls k3 k4 kl g : Nat) (s : ByteArray) (eof : Value) (lit : Nat) (acc : List UInt8) (m : Int) (fil : Bool) (w0 w : World) (c i : Nat) (bs : List UInt8) (sl de ce : Bool) (dv cv : Value) (K : Act → World → Prop) (Q : Exit → Act → World → Prop)
    (hC : BC F B b ls k3 k4 kl s eof acc lit w0) (hB : BS ls s w0 g i bs de ce dv cv w) (hc : c = 45) (hl8 : bs.length + 8 ≤ 8 * i) (h93 : (nx s i).1 ≠ 93) (hlt : ¬ (nx s i).1 < lastR s i)
    (hK : ∀ a w' dv' cv', LF m k3 k4 kl g fil (nx s i).1 sl dv' cv' a → BS ls s w0 g (nx s i).2 (bs ++ [45]) de ce dv' cv' w' → K ⟨a, []⟩ w') (a : Array Value) (hF : LF m k3 k4 kl g fil c sl dv cv a) :
    Code.wp Tryz.prog brBody (Exit.then K Q) ⟨a, []⟩ w := by
  refine hF.open (C := fun a => Code.wp Tryz.prog brBody (Exit.then K Q) ⟨a, []⟩ w) fun x => ?_
  clear hF a
  have HC := Lib.hid hC
  have HB := Lib.hid hB
  have HK := Lib.hid hK
  obtain ⟨hj0, hj1, hj2⟩ := nx_le s i hB.hi
  have hr := hB.room hC
  have hbl := hB.bl
  have hsz := hB.kp.size
  have hs42 := hC.st.base.hs
  subst hc
  obtain ⟨e3, e4, e1, e0⟩ := (hB.st hC).cells
  have h93b : (((nx s i).1 : Int) != 93) = true := by rw [bne_iff_ne]; omega
  have hltb : ¬ ((nx s i).1 : Int) < (lastR s i : Int) := by omega
  clear h93 hlt
  have HW := Lib.hid (writeByte_any w0.heap.size g (Lib.byteCells bs) 45 w hB.Bg (by omega) hsz)
  clear hC hB hK
  conv => arg 2; whnf
  go_wp2_with fail
  refine HW.out.mono ?_
  rintro e w1 ⟨rfl, hB1, hf1⟩
  have hW1 := HB.out.write (out := [45]) hB1 hf1
  obtain ⟨f3, f4, f1, f0⟩ := (hW1.st HC.out).cells
  have HLA := Lib.hid (last_any ls s i w1 hW1.L hW1.hi (by omega) (hW1.st HC.out).base.T)
  have HW1 := Lib.hid (hW1.toB (by rw [List.length_append]; simp only [List.length_cons, List.length_nil]; omega))
  clear hB1 hf1 HB HW e3 e4 e1 e0 hW1
  go_wp2_with fail
  refine HLA.out.mono ?_
  rintro e w2 ⟨rfl, hb2⟩
  have hB2 := HW1.out.below hb2
  obtain ⟨h3, h4, h1, h0⟩ := (hB2.st HC.out).cells
  have HPK := Lib.hid (peekNext_any ls s i w2 hB2.L hB2.hi (by omega) (hB2.st HC.out).base.T)
  have HB2 := Lib.hid hB2
  clear hB2 hb2 HW1 HLA f3 f4 f1 f0
  go_wp2_with fail
  refine HPK.out.mono ?_
  rintro e w3 ⟨rfl, hb3⟩
  have hB3 := HB2.out.below hb3
  obtain ⟨q3, q4, q1, q0⟩ := (hB3.st HC.out).cells
  have HF3 := Lib.hid (hB3.st HC.out).base.F
  have HB3 := Lib.hid hB3
  clear hB3 hb3 HB2 HPK h3 h4 h1 h0
  have stt := HB3.out.st HC.out
  obtain ⟨r3, r4, r1, r0⟩ := (stt).cells
  have HN := Lib.hid (next_any ls s i _ stt.L stt.hi (by have := stt.base.hs; omega) stt.base.T)
  clear stt 
  go_wp2_with fail
  refine HN.out.mono ?_
  rintro e wn ⟨rfl, hL, hk⟩
  have HE := Lib.hid (HB3.out.lex hL hj1 (by omega) hk)
  clear hL hk HN HB3
  go_wp2_with fail
  exact HK.out _ _ _ _ ⟨rfl, rfl, rfl, rfl, rfl, rfl, rfl, rfl, rfl, rfl, rfl, rfl⟩ HE.out
theorem rd_dashDe (F : Interp) (B b ls k3 k4 kl g : Nat) (s : ByteArray) (eof : Value) (lit : Nat) (acc : List UInt8) (m : Int) (fil : Bool) (w0 w : World) (c i : Nat) (bs : List UInt8) (sl de ce : Bool) (dv cv : Value) (K : Act → World → Prop) (Q : Exit → Act → World → Prop)
    (hC : BC F B b ls k3 k4 kl s eof acc lit w0) (hB : BS ls s w0 g i bs de ce dv cv w) (hc : c = 45) (hl8 : bs.length + 8 ≤ 8 * i) (h93 : (nx s i).1 ≠ 93) (hlt : (nx s i).1 < lastR s i) (hde : de = true)
    (hK : ∀ a w' dv' cv', LF m k3 k4 kl g fil (nx s i).1 sl dv' cv' a → BS ls s w0 g (nx s i).2 (bs ++ [45]) true ce dv' cv' w' → K ⟨a, []⟩ w') (a : Array Value) (hF : LF m k3 k4 kl g fil c sl dv cv a) :
    Code.wp Tryz.prog brBody (Exit.then K Q) ⟨a, []⟩ w := by
  refine hF.open (C := fun a => Code.wp Tryz.prog brBody (Exit.then K Q) ⟨a, []⟩ w) fun x => ?_
  clear hF a
  have HC := Lib.hid hC
  have HB := Lib.hid hB
  have HK := Lib.hid hK
  obtain ⟨hj0, hj1, hj2⟩ := nx_le s i hB.hi
  have hr := hB.room hC
  have hbl := hB.bl
  have hsz := hB.kp.size
  have hs42 := hC.st.base.hs
  subst hc
  obtain ⟨e3, e4, e1, e0⟩ := (hB.st hC).cells
  subst hde
  obtain ⟨p, mm, u, rfl, hp, hu⟩ := hB.D.1 rfl
  clear hp hu
  have h93b : (((nx s i).1 : Int) != 93) = true := by rw [bne_iff_ne]; omega
  have hltb : ((nx s i).1 : Int) < (lastR s i : Int) := by omega
  clear h93 hlt
  have HW := Lib.hid (writeByte_any w0.heap.size g (Lib.byteCells bs) 45 w hB.Bg (by omega) hsz)
  clear hC hB hK
  conv => arg 2; whnf
  go_wp2_with fail
  refine HW.out.mono ?_
  rintro e w1 ⟨rfl, hB1, hf1⟩
  have hW1 := HB.out.write (out := [45]) hB1 hf1
  obtain ⟨f3, f4, f1, f0⟩ := (hW1.st HC.out).cells
  have HLA := Lib.hid (last_any ls s i w1 hW1.L hW1.hi (by omega) (hW1.st HC.out).base.T)
  have HW1 := Lib.hid (hW1.toB (by rw [List.length_append]; simp only [List.length_cons, List.length_nil]; omega))
  clear hB1 hf1 HB HW e3 e4 e1 e0 hW1
  go_wp2_with fail
  refine HLA.out.mono ?_
  rintro e w2 ⟨rfl, hb2⟩
  have hB2 := HW1.out.below hb2
  obtain ⟨h3, h4, h1, h0⟩ := (hB2.st HC.out).cells
  have HPK := Lib.hid (peekNext_any ls s i w2 hB2.L hB2.hi (by omega) (hB2.st HC.out).base.T)
  have HB2 := Lib.hid hB2
  clear hB2 hb2 HW1 HLA f3 f4 f1 f0
  go_wp2_with fail
  refine HPK.out.mono ?_
  rintro e w3 ⟨rfl, hb3⟩
  have hB3 := HB2.out.below hb3
  obtain ⟨q3, q4, q1, q0⟩ := (hB3.st HC.out).cells
  have HF3 := Lib.hid (hB3.st HC.out).base.F
  have HB3 := Lib.hid hB3
  clear hB3 hb3 HB2 HPK h3 h4 h1 h0
  have stt := HB3.out.st HC.out
  obtain ⟨r3, r4, r1, r0⟩ := (stt).cells
  have HN := Lib.hid (next_any ls s i _ stt.L stt.hi (by have := stt.base.hs; omega) stt.base.T)
  clear stt 
  go_wp2_with fail
  refine HN.out.mono ?_
  rintro e wn ⟨rfl, hL, hk⟩
  have HE := Lib.hid (HB3.out.lex hL hj1 (by omega) hk)
  clear hL hk HN HB3
  go_wp2_with fail
  exact HK.out _ _ _ _ ⟨rfl, rfl, rfl, rfl, rfl, rfl, rfl, rfl, rfl, rfl, rfl, rfl⟩ HE.out
end Go.Proofs.YtpfgmiocdgfniaaGreatFmt

namespace Go.Proofs.YtpfgmiocdgfniaaGreatFmt
open Go.RowKit Go.Extern.Stop Go.Stop Go.Extern
def shapeR : List UInt8 := [4, 5, 0, 0, 0, 0, 0, 0, 0, 105, 110, 116, 51, 50]
@[go_sem] theorem opR (name : String) (n : Int) (w : World) : (FmtStop.operand name false 99 false (.iface 21 (.int .i32 n))).run Tryz.prog w = .ok (shapeR, digits 8 (n % 2 ^ 64).toNat) w := by kernel_rfl
theorem alloc2_at (w : World) (A B : Obj) : (((w.alloc A).alloc B).drew).heap[w.heap.size + 1]? = some B := by
  show ((w.heap.push A).push B)[w.heap.size + 1]? = some B
  have e : w.heap.size + 1 = (w.heap.push A).size := by simp
  rw [e]
  exact Array.getElem?_push_size
theorem rd_dashNew (F : Interp) (B b ls k3 k4 kl g : Nat) (s : ByteArray) (eof : Value) (lit : Nat) (acc : List UInt8) (m : Int) (fil : Bool) (w0 w : World) (c i : Nat) (bs : List UInt8) (sl de ce : Bool) (dv cv : Value) (K : Act → World → Prop) (Q : Exit → Act → World → Prop)
    (hC : BC F B b ls k3 k4 kl s eof acc lit w0) (hB : BS ls s w0 g i bs de ce dv cv w) (hc : c = 45) (hl8 : bs.length + 8 ≤ 8 * i) (h93 : (nx s i).1 ≠ 93) (hlt : (nx s i).1 < lastR s i) (hde : de = false)
    (hK : ∀ a w' dv' cv', LF m k3 k4 kl g fil (nx s i).1 sl dv' cv' a → BS ls s w0 g (nx s i).2 (bs ++ [45]) true ce dv' cv' w' → K ⟨a, []⟩ w') (a : Array Value) (hF : LF m k3 k4 kl g fil c sl dv cv a) :
    Code.wp Tryz.prog brBody (Exit.then K Q) ⟨a, []⟩ w := by
  refine hF.open (C := fun a => Code.wp Tryz.prog brBody (Exit.then K Q) ⟨a, []⟩ w) fun x => ?_
  clear hF a
  have HC := Lib.hid hC
  have HB := Lib.hid hB
  have HK := Lib.hid hK
  obtain ⟨hj0, hj1, hj2⟩ := nx_le s i hB.hi
  have hr := hB.room hC
  have hbl := hB.bl
  have hsz := hB.kp.size
  have hs42 := hC.st.base.hs
  subst hc
  obtain ⟨e3, e4, e1, e0⟩ := (hB.st hC).cells
  subst hde
  obtain rfl := hB.D.2 rfl
  have h93b : (((nx s i).1 : Int) != 93) = true := by rw [bne_iff_ne]; omega
  have hltb : ((nx s i).1 : Int) < (lastR s i : Int) := by omega
  clear h93 hlt
  have HW := Lib.hid (writeByte_any w0.heap.size g (Lib.byteCells bs) 45 w hB.Bg (by omega) hsz)
  clear hC hB hK
  conv => arg 2; whnf
  go_wp2_with fail
  refine HW.out.mono ?_
  rintro e w1 ⟨rfl, hB1, hf1⟩
  have hW1 := HB.out.write (out := [45]) hB1 hf1
  obtain ⟨f3, f4, f1, f0⟩ := (hW1.st HC.out).cells
  have HLA := Lib.hid (last_any ls s i w1 hW1.L hW1.hi (by omega) (hW1.st HC.out).base.T)
  have HW1 := Lib.hid (hW1.toB (by rw [List.length_append]; simp only [List.length_cons, List.length_nil]; omega))
  clear hB1 hf1 HB HW e3 e4 e1 e0 hW1
  go_wp2_with fail
  refine HLA.out.mono ?_
  rintro e w2 ⟨rfl, hb2⟩
  have hB2 := HW1.out.below hb2
  obtain ⟨h3, h4, h1, h0⟩ := (hB2.st HC.out).cells
  have HPK := Lib.hid (peekNext_any ls s i w2 hB2.L hB2.hi (by omega) (hB2.st HC.out).base.T)
  have HB2 := Lib.hid hB2
  clear hB2 hb2 HW1 HLA f3 f4 f1 f0
  go_wp2_with fail
  refine HPK.out.mono ?_
  rintro e w3 ⟨rfl, hb3⟩
  have hB3 := HB2.out.below hb3
  obtain ⟨q3, q4, q1, q0⟩ := (hB3.st HC.out).cells
  have HF3 := Lib.hid (hB3.st HC.out).base.F
  have HB3 := Lib.hid hB3
  clear hB3 hb3 HB2 HPK h3 h4 h1 h0
  clear HF3
  go_upto_region 136 with fail
  have hbw : ∀ (A B : Obj), Below w3.heap.size w3 (((w3.alloc A).alloc B).drew) := fun A B => (((Below.refl _ _).alloc (Nat.le_refl _) A).alloc (by simp) B).drew
  refine rd_next F B b ls k3 k4 kl g s eof lit acc m fil w0 _ 45 i (bs ++ [45]) sl true ce _ cv _ HC.out ((HB3.out.below (hbw _ _)).setDe (ErrV.yes ⟨_, _, .nilIface, rfl, alloc2_at _ _ _, .inl rfl⟩)) ?_ _ ⟨rfl, rfl, rfl, rfl, rfl, rfl, rfl, rfl, rfl, rfl, rfl, rfl⟩
  intro a w' hF hB
  exact HK.out _ _ _ _ hF hB
end Go.Proofs.YtpfgmiocdgfniaaGreatFmt
