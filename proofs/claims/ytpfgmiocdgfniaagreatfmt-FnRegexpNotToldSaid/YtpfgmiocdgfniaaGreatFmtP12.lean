/- Joined by pack.py: BrP, BrQ, BrR. -/
import Derived.Test.YtpfgmiocdgfniaaGreatFmtP11
import Derived.LoopN
set_option linter.unusedVariables false
set_option maxHeartbeats 8000000
set_option maxRecDepth 1000000
namespace Go.Proofs.YtpfgmiocdgfniaaGreatFmt
open Go.RowKit Go.Extern.Stop Go.Stop Go.Extern
theorem ext2 (s : ByteArray) (i n : Nat) (h : i + n ≤ s.size) : (s.extract i s.size).extract 0 n = s.extract i (i + n) := by
  apply ByteArray.ext
  apply Array.ext'
  rw [extract_list, extract_list, extract_list]
  simp only [List.drop_zero, Nat.sub_zero]
  rw [List.take_take]
  congr 1
  omega
theorem brL_step (fil : Bool) (s : ByteArray) (lit f : Nat) (t : Br) : brL fil s lit (f + 1) t = 
    if t.c = 0 then (if t.ce then ⟨3, 0, t.i, []⟩ else litB lit)
    else if t.c = 92 then
      (if (nx s t.i).1 = 0 then brL fil s lit f { t with c := 0, i := (nx s t.i).2 } else brL fil s lit f (adv s (brEsc fil t (nx s t.i).1 (nx s t.i).2)))
    else if t.c = 45 then brL fil s lit f (adv s (brDash s t))
    else if t.c = 93 then (if t.sl then ⟨0, 0, t.i, rq (s.extract (lit - 1) t.i).data.toList⟩ else if t.de then ⟨3, 0, t.i, []⟩ else ⟨0, 0, t.i, t.bs ++ [93]⟩)
    else if t.c = 91 then brL fil s lit f (adv s (brOpen fil s t))
    else brL fil s lit f (adv s (brDef fil t)) := rfl
theorem br_rounds (F : Interp) (B b ls k3 k4 kl g : Nat) (s : ByteArray) (eof : Value) (lit : Nat) (acc : List UInt8) (m : Int) (fil : Bool) (w0 wS : World) (Post : Ending → World → Prop) (Q : Exit → Act → World → Prop)
    (hC : BC F B b ls k3 k4 kl s eof acc lit w0) (hks : Kp (XX ls B b wS) wS w0) (hQ : RetQ Q Post) :
    ∀ (f c i : Nat) (bs : List UInt8) (sl de ce : Bool) (dv cv : Value) (w : World) (a : Array Value), LF m k3 k4 kl g fil c sl dv cv a → BS ls s w0 g i bs de ce dv cv w → c ≤ 1114111 → (c ≠ 0 → bs.length + 8 ≤ 8 * i) → lit ≤ i →
      need s ⟨c, i, bs, sl, de, ce⟩ < f → RPost B b ls s eof acc wS (brL fil s lit f ⟨c, i, bs, sl, de, ce⟩) Post → Code.rounds Tryz.prog brBody Q f ⟨a, []⟩ w := by
  intro f
  induction f with
  | zero => intro c i bs sl de ce dv cv w a hF hB hc hl hli hn; omega
  | succ f ih =>
    intro c i bs sl de ce dv cv w a hF hB hc hl hli hn hP
    rw [rounds_succ]
    rw [brL_step] at hP
    dsimp only at hP
    obtain ⟨hj0, hj1, hj2⟩ := nx_le s i hB.hi
    have hcs := nx_cases s i hB.hi
    by_cases h0 : c = 0
    · rw [if_pos h0] at hP
      cases hce : ce with
      | true =>
        rw [hce, if_pos rfl] at hP
        exact rd_end1 F B b ls k3 k4 kl g s eof lit acc m fil w0 w c i bs sl de ce dv cv wS Post _ Q hC hB hks hQ h0 hce hP a hF
      | false =>
        rw [hce] at hP
        exact rd_end0 F B b ls k3 k4 kl g s eof lit acc m fil w0 w c i bs sl de ce dv cv wS Post _ Q hC hB hks hQ h0 hce hP a hF
    rw [if_neg h0] at hP
    have hl8 := hl h0
    have hnd : 2 * (s.size - i) + 1 < f + 1 := by have := hn; simp only [need, if_neg h0] at this; exact this
    have need_lt : ∀ c' i' bs' sl' de' ce', i ≤ i' → (c' ≠ 0 → i < i' ∧ i < s.size) → need s ⟨c', i', bs', sl', de', ce'⟩ < f := by
      intro c' i' bs' sl' de' ce' h1 h2
      unfold need
      by_cases hz : c' = 0
      · simp only [hz, if_true]; omega
      · simp only [hz, if_false]; have := h2 hz; omega
    have nxz : ∀ j, j ≤ s.size → (nx s j).1 ≠ 0 → j < (nx s j).2 ∧ j < s.size := fun j _ h => nx_adv s j h
    by_cases h92 : c = 92
    · rw [if_pos h92] at hP
      by_cases hz : (nx s i).1 = 0
      · rw [if_pos hz] at hP
        refine rd_esc0 F B b ls k3 k4 kl g s eof lit acc m fil w0 w c i bs sl de ce dv cv _ Q hC hB h92 (nx s i).2 (by rw [← hz]) hj0 ?_ a hF
        intro a' w' dv' cv' hF' hB'
        exact ih 0 _ bs sl de ce dv' cv' w' a' hF' hB' (by omega) (fun h => absurd rfl h) (by omega) (need_lt _ _ _ _ _ _ hj0 (fun h => absurd rfl h)) hP
      · rw [if_neg hz] at hP
        obtain ⟨hlt, hlt2⟩ := nxz i hB.hi hz
        generalize hnx : nx s i = n at *
        obtain ⟨c1, i1⟩ := n
        dsimp only at *
        obtain ⟨ha0, ha1, ha2⟩ := nx_le s i1 hj1
        have nl : ∀ bs' sl' de' ce', need s ⟨(nx s i1).1, (nx s i1).2, bs', sl', de', ce'⟩ < f := fun bs' sl' de' ce' => need_lt _ _ _ _ _ _ (by omega) (fun h => by have := nxz i1 hj1 h; omega)
        have fin : ∀ out sl', out.length ≤ 8 → brEsc fil ⟨c, i, bs, sl, de, ce⟩ c1 i1 = ⟨c, i1, bs ++ out, sl', de, ce⟩ → ∀ a' w' dv' cv', LF m k3 k4 kl g fil (nx s i1).1 sl' dv' cv' a' → BS ls s w0 g (nx s i1).2 (bs ++ out) de ce dv' cv' w' → Code.rounds Tryz.prog brBody Q f ⟨a', []⟩ w' := by
          intro out sl' hout he a' w' dv' cv' hF' hB'
          rw [he] at hP
          refine ih _ _ _ _ de ce dv' cv' w' a' hF' hB' ha2 (fun h => ?_) (by omega) (nl _ _ _ _) hP
          have := nxz i1 hj1 h
          rw [List.length_append]
          omega
        by_cases h45 : c1 = 45
        · refine rd_esc45 F B b ls k3 k4 kl g s eof lit acc m fil w0 w c i bs sl de ce dv cv _ Q hC hB h92 c1 i1 hnx hl8 hlt h45 ?_ a hF
          exact fin _ _ (by simp) (by simp [brEsc, h45])
        by_cases h128 : 128 < c1
        · refine rd_escG F B b ls k3 k4 kl g s eof lit acc m fil w0 w c i bs sl de ce dv cv _ Q hC hB h92 c1 i1 hnx hl8 hlt h128 ?_ a hF
          exact fin _ _ (by have := en_len c1; omega) (by simp [brEsc, h45, h128])
        · cases hfl : fil with
          | false =>
            subst hfl
            refine rd_escD0 F B b ls k3 k4 kl g s eof lit acc m false w0 w c i bs sl de ce dv cv _ Q hC hB h92 c1 i1 hnx hl8 hlt hz h45 h128 rfl ?_ a hF
            exact fin _ _ (rq_en_len c1) (by simp [brEsc, h45, h128])
          | true =>
            subst hfl
            by_cases h47 : c1 = 47
            · refine rd_escD2 F B b ls k3 k4 kl g s eof lit acc m true w0 w c i bs sl de ce dv cv _ Q hC hB h92 c1 i1 hnx hl8 hlt hz h45 h128 rfl h47 ?_ a hF
              exact fin _ _ (rq_en_len c1) (by simp [brEsc, h47])
            · refine rd_escD1 F B b ls k3 k4 kl g s eof lit acc m true w0 w c i bs sl de ce dv cv _ Q hC hB h92 c1 i1 hnx hl8 hlt hz h45 h128 rfl h47 ?_ a hF
              exact fin _ _ (rq_en_len c1) (by simp [brEsc, h45, h128, h47])
    rw [if_neg h92] at hP
    by_cases h45 : c = 45
    · rw [if_pos h45] at hP
      have fin : ∀ de', brDash s ⟨c, i, bs, sl, de, ce⟩ = ⟨c, i, bs ++ [45], sl, de', ce⟩ → ∀ a' w' dv' cv', LF m k3 k4 kl g fil (nx s i).1 sl dv' cv' a' → BS ls s w0 g (nx s i).2 (bs ++ [45]) de' ce dv' cv' w' → Code.rounds Tryz.prog brBody Q f ⟨a', []⟩ w' := by
        intro de' he a' w' dv' cv' hF' hB'
        rw [he] at hP
        refine ih _ _ _ sl de' ce dv' cv' w' a' hF' hB' hj2 (fun h => ?_) (by omega) (need_lt _ _ _ _ _ _ hj0 (nxz i hB.hi)) hP
        have := nxz i hB.hi h
        rw [List.length_append]
        simp only [List.length_cons, List.length_nil]
        omega
      by_cases h93 : (nx s i).1 = 93
      · exact rd_dash93 F B b ls k3 k4 kl g s eof lit acc m fil w0 w c i bs sl de ce dv cv _ Q hC hB h45 hl8 h93 (fin _ (by simp [brDash, h93])) a hF
      · by_cases hlt : (nx s i).1 < lastR s i
        · cases hde : de with
          | true =>
            subst hde
            exact rd_dashDe F B b ls k3 k4 kl g s eof lit acc m fil w0 w c i bs sl true ce dv cv _ Q hC hB h45 hl8 h93 hlt rfl (fin _ (by simp [brDash])) a hF
          | false =>
            subst hde
            exact rd_dashNew F B b ls k3 k4 kl g s eof lit acc m fil w0 w c i bs sl false ce dv cv _ Q hC hB h45 hl8 h93 hlt rfl (fin _ (by simp [brDash, h93, hlt])) a hF
        · exact rd_dashOk F B b ls k3 k4 kl g s eof lit acc m fil w0 w c i bs sl de ce dv cv _ Q hC hB h45 hl8 h93 hlt (fin _ (by simp [brDash, hlt])) a hF
    rw [if_neg h45] at hP
    by_cases h93 : c = 93
    · rw [if_pos h93] at hP
      cases hsl : sl with
      | true =>
        rw [hsl, if_pos rfl] at hP
        exact rd_cl1 F B b ls k3 k4 kl g s eof lit acc m fil w0 w c i bs sl de ce dv cv wS Post _ Q hC hB hks hQ h93 hsl hli hP a hF
      | false =>
        rw [hsl, if_neg (by simp)] at hP
        cases hde : de with
        | true =>
          rw [hde, if_pos rfl] at hP
          exact rd_cl2 F B b ls k3 k4 kl g s eof lit acc m fil w0 w c i bs sl de ce dv cv wS Post _ Q hC hB hks hQ h93 hsl hde hP a hF
        | false =>
          rw [hde, if_neg (by simp)] at hP
          exact rd_cl3 F B b ls k3 k4 kl g s eof lit acc m fil w0 w c i bs sl de ce dv cv wS Post _ Q hC hB hks hQ h93 hsl hde hl8 hP a hF
    rw [if_neg h93] at hP
    by_cases h91 : c = 91
    · rw [if_pos h91] at hP
      obtain ⟨n, er, hcc⟩ : ∃ n er, cc (s.extract i s.size).data.toList = (n, er) := ⟨_, _, rfl⟩
      have hnr : n ≤ s.size - i := by have := cc_le (s.extract i s.size).data.toList; rw [hcc, Pat.size_toList, ByteArray.size_extract] at this; simp only at this; omega
      have hx := ext2 s i n (by have := hB.hi; omega)
      have hxl : (s.extract i (i + n)).data.toList.length = n := by rw [Pat.size_toList, ByteArray.size_extract]; have := hB.hi; omega
      obtain ⟨ha0, ha1, ha2⟩ := nx_le s (i + n) (by have := hB.hi; omega)
      refine rd_open F B b ls k3 k4 kl g s eof lit acc m fil w0 w c i bs sl de ce dv cv _ Q hC hB h91 hl8 _ rfl n er hcc ?_ a hF
      intro a' w' dv' cv' hF' hB'
      rw [hx] at hF' hB'
      have he : brOpen fil s ⟨c, i, bs, sl, de, ce⟩ = ⟨c, i + n, bs ++ 91 :: (s.extract i (i + n)).data.toList, sl || (fil && (idx (s.extract i (i + n)).data.toList [47]).isSome), de || er, ce || er⟩ := by
        simp only [brOpen, hcc]
      rw [he] at hP
      refine ih _ _ _ _ _ _ dv' cv' w' a' hF' hB' ha2 (fun h => ?_) (by omega) (need_lt _ _ _ _ _ _ (by omega) (fun h => ?_)) hP
      · have := nxz (i + n) (by have := hB.hi; omega) h
        rw [List.length_append, List.length_cons, hxl]
        omega
      · have := nxz (i + n) (by have := hB.hi; omega) h
        omega
    · rw [if_neg h91] at hP
      have hen := en_len c
      have fin : ∀ sl', brDef fil ⟨c, i, bs, sl, de, ce⟩ = ⟨c, i, bs ++ en c, sl', de, ce⟩ → ∀ a' w' dv' cv', LF m k3 k4 kl g fil (nx s i).1 sl' dv' cv' a' → BS ls s w0 g (nx s i).2 (bs ++ en c) de ce dv' cv' w' → Code.rounds Tryz.prog brBody Q f ⟨a', []⟩ w' := by
        intro sl' he a' w' dv' cv' hF' hB'
        rw [he] at hP
        refine ih _ _ _ sl' de ce dv' cv' w' a' hF' hB' hj2 (fun h => ?_) (by omega) (need_lt _ _ _ _ _ _ hj0 (nxz i hB.hi)) hP
        have := nxz i hB.hi h
        rw [List.length_append]
        omega
      cases hfl : fil with
      | false =>
        subst hfl
        exact rd_def0 F B b ls k3 k4 kl g s eof lit acc m false w0 w c i bs sl de ce dv cv _ Q hC hB hc h0 h92 h45 h93 h91 (by omega) rfl (fin _ (by simp [brDef])) a hF
      | true =>
        subst hfl
        by_cases h47 : c = 47
        · exact rd_def2 F B b ls k3 k4 kl g s eof lit acc m true w0 w c i bs sl de ce dv cv _ Q hC hB hc h0 h92 h45 h93 h91 (by omega) rfl h47 (fin _ (by simp [brDef, h47])) a hF
        · exact rd_def1 F B b ls k3 k4 kl g s eof lit acc m true w0 w c i bs sl de ce dv cv _ Q hC hB hc h0 h92 h45 h93 h91 (by omega) rfl h47 (fin _ (by simp [brDef, h47])) a hF
end Go.Proofs.YtpfgmiocdgfniaaGreatFmt

namespace Go.Proofs.YtpfgmiocdgfniaaGreatFmt
open Go.RowKit Go.Extern.Stop Go.Stop Go.Extern
theorem brN3_eq : sq2 brN3 = .block 6 (.loop brBody) := rfl
theorem br3_any (F : Interp) (B b ls k3 k4 kl g : Nat) (s : ByteArray) (eof : Value) (lit : Nat) (acc : List UInt8) (m : Int) (fil : Bool) (w0 wS : World) (Post : Ending → World → Prop) (Q : Exit → Act → World → Prop)
    (hC : BC F B b ls k3 k4 kl s eof acc lit w0) (hks : Kp (XX ls B b wS) wS w0) (hQ : RetQ Q Post) (c i : Nat) (bs : List UInt8) (w : World) (a : Array Value) (hF : LF m k3 k4 kl g fil c false .nilIface .nilIface a) (hB : BS ls s w0 g i bs false false .nilIface .nilIface w) (hc0 : c ≠ 0) (hc : c ≤ 1114111) (hl : bs.length + 8 ≤ 8 * i) (hli : lit ≤ i)
    (hP : RPost B b ls s eof acc wS (br3 fil s lit c i bs) Post) : Code.wp Tryz.prog (sq2 brN3) Q ⟨a, []⟩ w := by
  rw [brN3_eq]
  refine wp_block (wp_loop_rounds (need s ⟨c, i, bs, false, false, false⟩ + 1) ?_)
  exact br_rounds F B b ls k3 k4 kl g s eof lit acc m fil w0 wS Post (Exit.inBlock 6 Q) hC hks (fun a w v h1 h2 h3 => hQ a w v h1 h2 h3) _ c i bs false false false .nilIface .nilIface w a hF hB hc (fun _ => hl) hli (by omega) hP
theorem br2_any (F : Interp) (B b ls k3 k4 kl g : Nat) (s : ByteArray) (eof : Value) (lit : Nat) (acc : List UInt8) (m : Int) (fil : Bool) (w0 wS : World) (Post : Ending → World → Prop) (Q : Exit → Act → World → Prop)
    (hC : BC F B b ls k3 k4 kl s eof acc lit w0) (hks : Kp (XX ls B b wS) wS w0) (hQ : RetQ Q Post) (c i : Nat) (bs : List UInt8) (w : World) (a : Array Value) (hF : LF m k3 k4 kl g fil c false .nilIface .nilIface a) (hB : BS ls s w0 g i bs false false .nilIface .nilIface w) (hc0 : c ≠ 0) (hc : c ≤ 1114111) (hl : bs.length + 8 ≤ 8 * i) (hli : lit ≤ i)
    (hP : RPost B b ls s eof acc wS (br2 fil s lit c i bs) Post) : Code.wp Tryz.prog brN3 Q ⟨a, []⟩ w := by
  have h3 := br3_any F B b ls k3 k4 kl g s eof lit acc m fil w0 wS Post Q hC hks hQ
  have H3 := Lib.hid h3
  clear h3
  refine hF.open (C := fun a => Code.wp Tryz.prog brN3 Q ⟨a, []⟩ w) fun x => ?_
  clear hF a
  unfold br2 at hP
  by_cases h93 : c = 93
  · rw [if_pos h93] at hP
    subst h93
    have HC := Lib.hid hC
    have HB := Lib.hid hB
    have HKS := Lib.hid hks
    have HQ := Lib.hid hQ
    have HP := Lib.hid hP
    clear hC hB hks hQ hP
    conv => arg 2; whnf
    refine wp_seq_k fun K hK => ?_
    have HK := Lib.hid hK
    clear hK
    have HW1 := Lib.hid (writeByte_any w0.heap.size g (Lib.byteCells bs) 93 w HB.out.Bg (by have := HB.out.room HC.out; omega) HB.out.kp.size)
    go_wp2_with fail
    refine HW1.out.mono ?_
    rintro e w1 ⟨rfl, hB1, hf1⟩
    have HB1 := Lib.hid ((HB.out.write (out := [93]) hB1 hf1).toB (by rw [List.length_append]; simp only [List.length_cons, List.length_nil]; omega))
    clear hB1 hf1 HW1
    by_cases hz : (nx s i).1 = 0
    · have HP' := HP.out
      rw [if_pos hz] at HP'
      have HPx := HP
      clear HP HPx
      have HP := Lib.hid HP'
      clear HP'
      have st2 := HB1.out.st HC.out
      obtain ⟨p23, p24, p21, p20⟩ := (st2).cells
      have HN2 := Lib.hid (next_any ls s i w1 st2.L st2.hi (by have := st2.base.hs; omega) st2.base.T)
      obtain ⟨ha2, hb2, hc2⟩ := nx_le s i st2.hi
      rw [hz] at HN2
      clear hz
      clear st2
      go_wp2_with fail
      refine HN2.out.mono ?_
      rintro e w2 ⟨rfl, hL2, hk2⟩
      have HB2 := Lib.hid (HB1.out.lex hL2 hb2 ha2 hk2)
      clear hL2 hk2 HN2 p23 p24 p21 p20
      have HLB := Lib.hid (litB_any F B b ls k3 k4 kl s eof _ lit acc w2 (HB2.out.st HC.out) (HB2.out.klc HC.out) HC.out.st.hi HC.out.len)
      have HKS2 := Lib.hid (HKS.out.XXls HB2.out.kp)
      go_wp2_with fail
      refine HLB.out.mono ?_
      rintro e wl ⟨rfl, hsl, hkl⟩
      have HE := Lib.hid (HP.out.use hsl.L hsl.Bd (HKS2.out.XXcall hkl) (err0 _ _ _ _))
      clear hsl hkl HLB HKS2
      go_wp2_with fail
      exact HQ.out.use rfl rfl HE.out
    · have HP' := HP.out
      rw [if_neg hz] at HP'
      obtain ⟨hq1, hq2⟩ := nx_adv s i hz
      have bz : (((nx s i).1 : Int) == 0) = false := by rw [beq_eq_false_iff_ne]; omega
      have HZ := Lib.hid hz
      clear hz
      have st2 := HB1.out.st HC.out
      obtain ⟨p23, p24, p21, p20⟩ := (st2).cells
      have HN2 := Lib.hid (next_any ls s i w1 st2.L st2.hi (by have := st2.base.hs; omega) st2.base.T)
      obtain ⟨ha2, hb2, hc2⟩ := nx_le s i st2.hi
      clear st2
      go_wp2_with fail
      refine HN2.out.mono ?_
      rintro e w2 ⟨rfl, hL2, hk2⟩
      have HB2 := Lib.hid (HB1.out.lex hL2 hb2 ha2 hk2)
      clear hL2 hk2 HN2 p23 p24 p21 p20
      go_wp2_with fail
      refine HK.out _ _ ?_
      exact H3.out _ _ _ _ _ ⟨rfl, rfl, rfl, rfl, rfl, rfl, rfl, rfl, rfl, rfl, rfl, rfl⟩ HB2.out HZ.out hc2 (by rw [List.length_append]; simp only [List.length_cons, List.length_nil]; omega) (by omega) HP'
  · rw [if_neg h93] at hP
    have b93 : ((c : Int) == 93) = false := by rw [beq_eq_false_iff_ne]; omega
    have HC := Lib.hid hC
    have HB := Lib.hid hB
    have HKS := Lib.hid hks
    have HQ := Lib.hid hQ
    have HP := Lib.hid hP
    clear hC hB hks hQ hP h93
    conv => arg 2; whnf
    refine wp_seq_k fun K hK => ?_
    have HK := Lib.hid hK
    clear hK
    go_wp2_with fail
    refine HK.out _ _ ?_
    exact H3.out _ _ _ _ _ ⟨rfl, rfl, rfl, rfl, rfl, rfl, rfl, rfl, rfl, rfl, rfl, rfl⟩ HB.out hc0 hc hl hli HP.out
end Go.Proofs.YtpfgmiocdgfniaaGreatFmt

namespace Go.Proofs.YtpfgmiocdgfniaaGreatFmt
open Go.RowKit Go.Extern.Stop Go.Stop Go.Extern
theorem br1_any (F : Interp) (B b ls k3 k4 kl g : Nat) (s : ByteArray) (eof : Value) (lit : Nat) (acc : List UInt8) (m : Int) (fil : Bool) (w0 wS : World) (Post : Ending → World → Prop) (Q : Exit → Act → World → Prop)
    (hC : BC F B b ls k3 k4 kl s eof acc lit w0) (hks : Kp (XX ls B b wS) wS w0) (hQ : RetQ Q Post) (c i : Nat) (w : World) (a : Array Value) (hF : LF m k3 k4 kl g fil c false .nilIface .nilIface a) (hB : BS ls s w0 g i [91] false false .nilIface .nilIface w) (hc0 : c ≠ 0) (hc : c ≤ 1114111) (hl : 2 ≤ i) (hli : lit ≤ i)
    (hP : RPost B b ls s eof acc wS (br1 fil s lit c i) Post) : Code.wp Tryz.prog brN2 Q ⟨a, []⟩ w := by
  have h2 := br2_any F B b ls k3 k4 kl g s eof lit acc m fil w0 wS Post Q hC hks hQ
  have H2 := Lib.hid h2
  clear h2
  refine hF.open (C := fun a => Code.wp Tryz.prog brN2 Q ⟨a, []⟩ w) fun x => ?_
  clear hF a
  unfold br1 at hP
  by_cases h33 : c = 33
  · rw [if_pos (.inl h33)] at hP
    subst h33
    have HC := Lib.hid hC
    have HB := Lib.hid hB
    have HKS := Lib.hid hks
    have HQ := Lib.hid hQ
    have HP := Lib.hid hP
    clear hC hB hks hQ hP
    conv => arg 2; whnf
    refine wp_seq_k fun K hK => ?_
    have HK := Lib.hid hK
    clear hK
    have HW1 := Lib.hid (writeByte_any w0.heap.size g (Lib.byteCells [91]) 94 w HB.out.Bg (by have := HB.out.room HC.out; omega) HB.out.kp.size)
    go_wp2_with fail
    refine HW1.out.mono ?_
    rintro e w1 ⟨rfl, hB1, hf1⟩
    have HB1 := Lib.hid ((HB.out.write (out := [94]) hB1 hf1).toB (by rw [List.length_append]; simp only [List.length_cons, List.length_nil]; omega))
    clear hB1 hf1 HW1
    by_cases hz : (nx s i).1 = 0
    · have HP' := HP.out
      rw [if_pos hz] at HP'
      have HPx := HP
      clear HP HPx
      have HP := Lib.hid HP'
      clear HP'
      have st2 := HB1.out.st HC.out
      obtain ⟨p23, p24, p21, p20⟩ := (st2).cells
      have HN2 := Lib.hid (next_any ls s i w1 st2.L st2.hi (by have := st2.base.hs; omega) st2.base.T)
      obtain ⟨ha2, hb2, hc2⟩ := nx_le s i st2.hi
      rw [hz] at HN2
      clear hz
      clear st2
      go_wp2_with fail
      refine HN2.out.mono ?_
      rintro e w2 ⟨rfl, hL2, hk2⟩
      have HB2 := Lib.hid (HB1.out.lex hL2 hb2 ha2 hk2)
      clear hL2 hk2 HN2 p23 p24 p21 p20
      have HLB := Lib.hid (litB_any F B b ls k3 k4 kl s eof _ lit acc w2 (HB2.out.st HC.out) (HB2.out.klc HC.out) HC.out.st.hi HC.out.len)
      have HKS2 := Lib.hid (HKS.out.XXls HB2.out.kp)
      go_wp2_with fail
      refine HLB.out.mono ?_
      rintro e wl ⟨rfl, hsl, hkl⟩
      have HE := Lib.hid (HP.out.use hsl.L hsl.Bd (HKS2.out.XXcall hkl) (err0 _ _ _ _))
      clear hsl hkl HLB HKS2
      go_wp2_with fail
      exact HQ.out.use rfl rfl HE.out
    · have HP' := HP.out
      rw [if_neg hz] at HP'
      obtain ⟨hq1, hq2⟩ := nx_adv s i hz
      have bz : (((nx s i).1 : Int) == 0) = false := by rw [beq_eq_false_iff_ne]; omega
      have HZ := Lib.hid hz
      clear hz
      have st2 := HB1.out.st HC.out
      obtain ⟨p23, p24, p21, p20⟩ := (st2).cells
      have HN2 := Lib.hid (next_any ls s i w1 st2.L st2.hi (by have := st2.base.hs; omega) st2.base.T)
      obtain ⟨ha2, hb2, hc2⟩ := nx_le s i st2.hi
      clear st2
      go_wp2_with fail
      refine HN2.out.mono ?_
      rintro e w2 ⟨rfl, hL2, hk2⟩
      have HB2 := Lib.hid (HB1.out.lex hL2 hb2 ha2 hk2)
      clear hL2 hk2 HN2 p23 p24 p21 p20
      go_wp2_with fail
      refine HK.out _ _ ?_
      exact H2.out _ _ _ _ _ ⟨rfl, rfl, rfl, rfl, rfl, rfl, rfl, rfl, rfl, rfl, rfl, rfl⟩ HB2.out HZ.out hc2 (by simp only [List.length_cons, List.length_nil, List.length_append]; omega) (by omega) HP'
  by_cases h33' : c = 94
  · rw [if_pos (.inr h33')] at hP
    subst h33'
    have HC := Lib.hid hC
    have HB := Lib.hid hB
    have HKS := Lib.hid hks
    have HQ := Lib.hid hQ
    have HP := Lib.hid hP
    clear hC hB hks hQ hP
    conv => arg 2; whnf
    refine wp_seq_k fun K hK => ?_
    have HK := Lib.hid hK
    clear hK
    have HW1 := Lib.hid (writeByte_any w0.heap.size g (Lib.byteCells [91]) 94 w HB.out.Bg (by have := HB.out.room HC.out; omega) HB.out.kp.size)
    go_wp2_with fail
    refine HW1.out.mono ?_
    rintro e w1 ⟨rfl, hB1, hf1⟩
    have HB1 := Lib.hid ((HB.out.write (out := [94]) hB1 hf1).toB (by rw [List.length_append]; simp only [List.length_cons, List.length_nil]; omega))
    clear hB1 hf1 HW1
    by_cases hz : (nx s i).1 = 0
    · have HP' := HP.out
      rw [if_pos hz] at HP'
      have HPx := HP
      clear HP HPx
      have HP := Lib.hid HP'
      clear HP'
      have st2 := HB1.out.st HC.out
      obtain ⟨p23, p24, p21, p20⟩ := (st2).cells
      have HN2 := Lib.hid (next_any ls s i w1 st2.L st2.hi (by have := st2.base.hs; omega) st2.base.T)
      obtain ⟨ha2, hb2, hc2⟩ := nx_le s i st2.hi
      rw [hz] at HN2
      clear hz
      clear st2
      go_wp2_with fail
      refine HN2.out.mono ?_
      rintro e w2 ⟨rfl, hL2, hk2⟩
      have HB2 := Lib.hid (HB1.out.lex hL2 hb2 ha2 hk2)
      clear hL2 hk2 HN2 p23 p24 p21 p20
      have HLB := Lib.hid (litB_any F B b ls k3 k4 kl s eof _ lit acc w2 (HB2.out.st HC.out) (HB2.out.klc HC.out) HC.out.st.hi HC.out.len)
      have HKS2 := Lib.hid (HKS.out.XXls HB2.out.kp)
      go_wp2_with fail
      refine HLB.out.mono ?_
      rintro e wl ⟨rfl, hsl, hkl⟩
      have HE := Lib.hid (HP.out.use hsl.L hsl.Bd (HKS2.out.XXcall hkl) (err0 _ _ _ _))
      clear hsl hkl HLB HKS2
      go_wp2_with fail
      exact HQ.out.use rfl rfl HE.out
    · have HP' := HP.out
      rw [if_neg hz] at HP'
      obtain ⟨hq1, hq2⟩ := nx_adv s i hz
      have bz : (((nx s i).1 : Int) == 0) = false := by rw [beq_eq_false_iff_ne]; omega
      have HZ := Lib.hid hz
      clear hz
      have st2 := HB1.out.st HC.out
      obtain ⟨p23, p24, p21, p20⟩ := (st2).cells
      have HN2 := Lib.hid (next_any ls s i w1 st2.L st2.hi (by have := st2.base.hs; omega) st2.base.T)
      obtain ⟨ha2, hb2, hc2⟩ := nx_le s i st2.hi
      clear st2
      go_wp2_with fail
      refine HN2.out.mono ?_
      rintro e w2 ⟨rfl, hL2, hk2⟩
      have HB2 := Lib.hid (HB1.out.lex hL2 hb2 ha2 hk2)
      clear hL2 hk2 HN2 p23 p24 p21 p20
      go_wp2_with fail
      refine HK.out _ _ ?_
      exact H2.out _ _ _ _ _ ⟨rfl, rfl, rfl, rfl, rfl, rfl, rfl, rfl, rfl, rfl, rfl, rfl⟩ HB2.out HZ.out hc2 (by simp only [List.length_cons, List.length_nil, List.length_append]; omega) (by omega) HP'
  · rw [if_neg (by omega)] at hP
    have b33 : ((c : Int) == 33) = false := by rw [beq_eq_false_iff_ne]; omega
    have b94 : ((c : Int) == 94) = false := by rw [beq_eq_false_iff_ne]; omega
    have HC := Lib.hid hC
    have HB := Lib.hid hB
    have HKS := Lib.hid hks
    have HQ := Lib.hid hQ
    have HP := Lib.hid hP
    clear hC hB hks hQ hP h33 h33'
    conv => arg 2; whnf
    refine wp_seq_k fun K hK => ?_
    have HK := Lib.hid hK
    clear hK
    go_wp2_with fail
    refine HK.out _ _ ?_
    exact H2.out _ _ _ _ _ ⟨rfl, rfl, rfl, rfl, rfl, rfl, rfl, rfl, rfl, rfl, rfl, rfl⟩ HB.out hc0 hc (by simp only [List.length_cons, List.length_nil]; omega) hli HP.out
end Go.Proofs.YtpfgmiocdgfniaaGreatFmt
