/- Joined by pack.py: NextE, GrR, GrT, GrU, NextZ. -/
import Derived.Test.YtpfgmiocdgfniaaGreatFmtP15
import Derived.Test.YtpfgmiocdgfniaaGreatFmtP16
import Derived.LoopN
set_option linter.unusedVariables false
set_option maxHeartbeats 8000000
set_option maxRecDepth 1000000
namespace Go.Proofs.YtpfgmiocdgfniaaGreatFmt
open Go.RowKit Go.Extern
theorem brL_err (fil : Bool) (s : ByteArray) (lit : Nat) : ∀ (f : Nat) (t : Br), (brL fil s lit f t).err ≤ 3
  | 0, t => by simp [brL, litB]
  | f + 1, t => by
    unfold brL
    have ih := brL_err fil s lit f
    split
    · split <;> simp [litB]
    split
    · split <;> exact ih _
    split
    · exact ih _
    split
    · split
      · simp
      · split <;> simp
    split
    · exact ih _
    · exact ih _
theorem rest_err (md : Md) (s : ByteArray) (c i : Nat) : (rest md s c i).err ≤ 3 := by
  have h3 : ∀ fil lit c i bs, (br3 fil s lit c i bs).err ≤ 3 := fun _ _ _ _ _ => brL_err _ _ _ _ _
  have hl : ∀ lit, (litB lit).err ≤ 3 := fun _ => by simp [litB]
  have h2 : ∀ fil lit c i bs, (br2 fil s lit c i bs).err ≤ 3 := by
    intro fil lit c i bs
    unfold br2
    split
    · split
      · exact hl _
      · exact h3 _ _ _ _ _
    · exact h3 _ _ _ _ _
  unfold rest
  split
  · simp
  split
  · unfold star
    split
    · split
      · unfold star2
        split
        · split <;> simp
        · simp
      · simp
    · simp
  split
  · simp
  split
  · split <;> simp
  split
  · unfold brk
    split
    · exact hl _
    · unfold br1
      split
      · split
        · exact hl _
        · exact h2 _ _ _ _ _
      · exact h2 _ _ _ _ _
  split <;> simp
theorem grp_err (nxt : Nat → Res) (s : ByteArray) (hn : ∀ j, (nxt j).err ≤ 3) : ∀ (f j : Nat) (acc : List UInt8) (r : Res), grp nxt s f j acc = .err r → r.err ≤ 3
  | 0, j, acc, r, h => by simp [grp] at h
  | f + 1, j, acc, r, h => by
    unfold grp at h
    split at h
    · cases h
    split at h
    · exact grp_err nxt s hn f _ _ r h
    split at h
    · cases h
    split at h
    · exact grp_err nxt s hn f _ _ r h
    · cases h; exact hn j
theorem next_err (md : Md) (s : ByteArray) : ∀ (f i : Nat), (next md s f i).err ≤ 3
  | 0, i => by simp [next]
  | f + 1, i => by
    unfold next
    split
    · split
      · exact rest_err _ _ _ _
      · rename_i r he
        exact grp_err _ s (next_err md s f) _ _ _ r he
      · unfold closeG
        split
        · simp
        · split <;> simp
    · exact rest_err _ _ _ _
end Go.Proofs.YtpfgmiocdgfniaaGreatFmt

namespace Go.Proofs.YtpfgmiocdgfniaaGreatFmt
open Go.RowKit Go.Extern.Stop Go.Stop Go.Extern
theorem gr_rounds (F : Interp) (B b ls k3 k4 g : Nat) (s : ByteArray) (eof : Value) (acc : List UInt8) (m : Int) (c st : Nat) (w0 : World) (md : Md) (f : Nat) (Q : Exit → Act → World → Prop) (R : Grp)
    (hC : GC F B b ls k3 k4 s eof acc st w0) (ih : NIH F ls s eof m md f) (hfu : s.size < f + (st + 2))
    (hx1 : ∀ j ga a w', GF m k3 k4 g c st a → GS ls s w0 g j ga w' → acc.length + ga.length ≤ 16 * j + 64 → (nx s j).1 = 41 → R = .closed j ga → Q (.exit 1) ⟨a, []⟩ w')
    (hx0 : ∀ a w', GF m k3 k4 g c st a → Lx ls s (st + 1) w' → Kp (· = ls) w0 w' → R = .opened → Q (.exit 0) ⟨a, []⟩ w')
    (hxr : ∀ r (a : Array Value) w' v, a.size = 389 → a[6]? = some v → Lx ls s r.i w' → Kp (· = ls) w0 w' → ErrIs eof r w' v → R = .err r → Q .ret ⟨a, []⟩ w') :
    ∀ (n j : Nat) (ga : List UInt8) (w : World) (a : Array Value), GF m k3 k4 g c st a → GS ls s w0 g j ga w → acc.length + ga.length ≤ 16 * j + 64 → st + 2 ≤ j → grp (next md s f) s n j ga = R → s.size < n + j → Code.rounds Tryz.prog gBody Q n ⟨a, []⟩ w := by
  intro n
  induction n with
  | zero => intro j ga w a hF hG hl hj hR hn; have := hG.hi; omega
  | succ n ihn =>
    intro j ga w a hF hG hl hj hR hn
    rw [rounds_succ]
    unfold grp at hR
    by_cases h41 : (nx s j).1 = 41
    · rw [if_pos h41] at hR
      exact gr_close F B b ls k3 k4 g s eof acc m c st w0 w j ga _ Q hC hG h41 (fun a w' hF' hG' => hx1 j ga a w' hF' hG' hl h41 hR.symm) a hF
    rw [if_neg h41] at hR
    by_cases h124 : (nx s j).1 = 124
    · rw [if_pos h124] at hR
      have hq := nx_adv s j (by omega)
      exact gr_bar F B b ls k3 k4 g s eof acc m c st w0 w j ga _ Q hC hG h124 (fun a w' hF' hG' => ihn _ _ w' a hF' hG' (by simp only [List.length_append, List.length_cons, List.length_nil]; omega) (by omega) hR (by omega)) a hF
    rw [if_neg h124] at hR
    by_cases h0 : (nx s j).1 = 0
    · rw [if_pos h0] at hR
      exact gr_end F B b ls k3 k4 g s eof acc m c st w0 w j ga _ Q hC hG h0 (fun a w' hF' hL hk => hx0 a w' hF' hL hk hR.symm) a hF
    rw [if_neg h0] at hR
    have hg := (next_good md s f j hG.hi (by omega)).2 h0
    by_cases he : (next md s f j).err = 0
    · rw [if_pos he] at hR
      have hg2 := hg.2 (by omega)
      exact gr_rec0 F B b ls k3 k4 g s eof acc m c st w0 w j ga md f _ Q hC hG h41 h124 h0 ih (by omega) he (fun a w' hF' hG' => ihn _ _ w' a hF' hG' (by rw [List.length_append]; omega) (by omega) hR (by omega)) a hF
    · rw [if_neg he] at hR
      have h3 := next_err md s f j
      have h1 := hg.1
      exact gr_recE F B b ls k3 k4 g s eof acc m c st w0 w j ga md f _ Q hC hG h41 h124 h0 ih (by omega) (by omega) (fun a w' v ha h6 hL hk hv => hxr _ a w' v ha h6 hL hk hv hR.symm) a hF
end Go.Proofs.YtpfgmiocdgfniaaGreatFmt

namespace Go.Proofs.YtpfgmiocdgfniaaGreatFmt
open Go.RowKit Go.Extern.Stop Go.Stop Go.Extern
theorem ext_no (F : Interp) (B b ls k3 k4 : Nat) (s : ByteArray) (eof : Value) (acc : List UInt8) (m : Int) (md : Md) (c i : Nat) (w : World) (K : Act → World → Prop) (Q : Exit → Act → World → Prop) (hst : St F B b ls k3 k4 s eof i acc w) (hm : Mo m md) (hx : md.ext = false)
    (hK : ∀ a w', RF m k3 k4 c a → Below w.heap.size w w' → K ⟨a, []⟩ w') (a : Array Value) (hF : RF m k3 k4 c a) :
    Code.wp Tryz.prog extC (Exit.then K Q) ⟨a, []⟩ w := by
  refine hF.open (C := fun a => Code.wp Tryz.prog extC (Exit.then K Q) ⟨a, []⟩ w) fun x => ?_
  clear hF a
  have HK := Lib.hid hK
  have HS := Lib.hid hst
  have he := hm.ext1
  obtain ⟨e3, e4, e1, e0⟩ := hst.cells
  have hs42 := hst.base.hs
  have HPK := Lib.hid (peekNext_any ls s i w hst.L hst.hi (by omega) hst.base.T)
  clear hK hst hm
  rw [hx] at he
  clear hx HPK
  conv => arg 2; whnf
  go_wp2_with fail
  exact HK.out _ _ ⟨rfl, rfl, rfl, rfl, rfl, rfl⟩ (Below.refl _ _)
theorem ext_nop (F : Interp) (B b ls k3 k4 : Nat) (s : ByteArray) (eof : Value) (acc : List UInt8) (m : Int) (md : Md) (c i : Nat) (w : World) (K : Act → World → Prop) (Q : Exit → Act → World → Prop) (hst : St F B b ls k3 k4 s eof i acc w) (hm : Mo m md) (hx : md.ext = true) (hop : isOp c = false)
    (hK : ∀ a w', RF m k3 k4 c a → Below w.heap.size w w' → K ⟨a, []⟩ w') (a : Array Value) (hF : RF m k3 k4 c a) :
    Code.wp Tryz.prog extC (Exit.then K Q) ⟨a, []⟩ w := by
  refine hF.open (C := fun a => Code.wp Tryz.prog extC (Exit.then K Q) ⟨a, []⟩ w) fun x => ?_
  clear hF a
  have HK := Lib.hid hK
  have HS := Lib.hid hst
  have he := hm.ext1
  obtain ⟨e3, e4, e1, e0⟩ := hst.cells
  have hs42 := hst.base.hs
  have HPK := Lib.hid (peekNext_any ls s i w hst.L hst.hi (by omega) hst.base.T)
  clear hK hst hm
  rw [hx] at he
  have h5 : c ≠ 33 ∧ c ≠ 63 ∧ c ≠ 42 ∧ c ≠ 43 ∧ c ≠ 64 := by simpa [isOp, and_assoc] using hop
  have b33 : ((c : Int) == 33) = false := by rw [beq_eq_false_iff_ne]; omega
  have b63 : ((c : Int) == 63) = false := by rw [beq_eq_false_iff_ne]; omega
  have b42 : ((c : Int) == 42) = false := by rw [beq_eq_false_iff_ne]; omega
  have b43 : ((c : Int) == 43) = false := by rw [beq_eq_false_iff_ne]; omega
  have b64 : ((c : Int) == 64) = false := by rw [beq_eq_false_iff_ne]; omega
  clear hx HPK hop h5
  conv => arg 2; whnf
  go_wp2_with fail
  go_step3
  go_wp2_with fail
  go_step3
  go_wp2_with fail
  exact HK.out _ _ ⟨rfl, rfl, rfl, rfl, rfl, rfl⟩ (Below.refl _ _)
theorem ext_nopar (F : Interp) (B b ls k3 k4 : Nat) (s : ByteArray) (eof : Value) (acc : List UInt8) (m : Int) (md : Md) (c i : Nat) (w : World) (K : Act → World → Prop) (Q : Exit → Act → World → Prop) (hst : St F B b ls k3 k4 s eof i acc w) (hm : Mo m md) (hx : md.ext = true) (hop : isOp c = true) (h40 : (nx s i).1 ≠ 40)
    (hK : ∀ a w', RF m k3 k4 c a → Below w.heap.size w w' → K ⟨a, []⟩ w') (a : Array Value) (hF : RF m k3 k4 c a) :
    Code.wp Tryz.prog extC (Exit.then K Q) ⟨a, []⟩ w := by
  refine hF.open (C := fun a => Code.wp Tryz.prog extC (Exit.then K Q) ⟨a, []⟩ w) fun x => ?_
  clear hF a
  have HK := Lib.hid hK
  have HS := Lib.hid hst
  have he := hm.ext1
  obtain ⟨e3, e4, e1, e0⟩ := hst.cells
  have hs42 := hst.base.hs
  have HPK := Lib.hid (peekNext_any ls s i w hst.L hst.hi (by omega) hst.base.T)
  clear hK hst hm
  rw [hx] at he
  have b40 : (((nx s i).1 : Int) != 40) = true := by rw [bne_iff_ne]; omega
  clear hx h40
  obtain rfl | rfl | rfl | rfl | rfl : c = 33 ∨ c = 63 ∨ c = 42 ∨ c = 43 ∨ c = 64 := by simpa [isOp, or_assoc] using hop
  · clear hop
    conv => arg 2; whnf
    go_wp2_with fail
    go_step3
    go_wp2_with fail
    go_step3
    go_wp2_with fail
    go_step3
    go_wp2_with fail
    refine HPK.out.mono ?_
    rintro e w1 ⟨rfl, hb1⟩
    have HB1 := Lib.hid hb1
    clear hb1 HPK e3 e4 e1 e0
    go_wp2_with fail
    exact HK.out _ _ ⟨rfl, rfl, rfl, rfl, rfl, rfl⟩ HB1.out
  · clear hop
    conv => arg 2; whnf
    go_wp2_with fail
    go_step3
    go_wp2_with fail
    go_step3
    go_wp2_with fail
    go_step3
    go_wp2_with fail
    refine HPK.out.mono ?_
    rintro e w1 ⟨rfl, hb1⟩
    have HB1 := Lib.hid hb1
    clear hb1 HPK e3 e4 e1 e0
    go_wp2_with fail
    exact HK.out _ _ ⟨rfl, rfl, rfl, rfl, rfl, rfl⟩ HB1.out
  · clear hop
    conv => arg 2; whnf
    go_wp2_with fail
    go_step3
    go_wp2_with fail
    go_step3
    go_wp2_with fail
    go_step3
    go_wp2_with fail
    refine HPK.out.mono ?_
    rintro e w1 ⟨rfl, hb1⟩
    have HB1 := Lib.hid hb1
    clear hb1 HPK e3 e4 e1 e0
    go_wp2_with fail
    exact HK.out _ _ ⟨rfl, rfl, rfl, rfl, rfl, rfl⟩ HB1.out
  · clear hop
    conv => arg 2; whnf
    go_wp2_with fail
    go_step3
    go_wp2_with fail
    go_step3
    go_wp2_with fail
    go_step3
    go_wp2_with fail
    refine HPK.out.mono ?_
    rintro e w1 ⟨rfl, hb1⟩
    have HB1 := Lib.hid hb1
    clear hb1 HPK e3 e4 e1 e0
    go_wp2_with fail
    exact HK.out _ _ ⟨rfl, rfl, rfl, rfl, rfl, rfl⟩ HB1.out
  · clear hop
    conv => arg 2; whnf
    go_wp2_with fail
    go_step3
    go_wp2_with fail
    go_step3
    go_wp2_with fail
    go_step3
    go_wp2_with fail
    refine HPK.out.mono ?_
    rintro e w1 ⟨rfl, hb1⟩
    have HB1 := Lib.hid hb1
    clear hb1 HPK e3 e4 e1 e0
    go_wp2_with fail
    exact HK.out _ _ ⟨rfl, rfl, rfl, rfl, rfl, rfl⟩ HB1.out
end Go.Proofs.YtpfgmiocdgfniaaGreatFmt

namespace Go.Proofs.YtpfgmiocdgfniaaGreatFmt
open Go.RowKit Go.Extern.Stop Go.Stop Go.Extern
theorem gLo_eq : gLo = .seq (.block 1 (.loop gBody)) gAft := rfl
theorem grp_all (F : Interp) (B b ls k3 k4 g : Nat) (s : ByteArray) (eof : Value) (acc : List UInt8) (m : Int) (c st : Nat) (w0 w wS : World) (md : Md) (f j : Nat) (ga : List UInt8) (Post : Ending → World → Prop) (Q : Exit → Act → World → Prop) (hC : GC F B b ls k3 k4 s eof acc st w0) (hG : GS ls s w0 g j ga w)
    (hks : Kp (XX ls B b wS) wS w0) (hQ : RetQ Q Post) (ih : NIH F ls s eof m md f) (hfu : s.size < f + (st + 2)) (hcm : c ≤ 1114111) (hl : acc.length + ga.length ≤ 16 * j + 64) (hj : st + 2 ≤ j)
    (hP : RPost B b ls s eof acc wS (match grp (next md s f) s (s.size + 1) j ga with
       | .opened => rest md s c (st + 1)
       | .err r => { r with out := [] }
       | .closed j acc => closeG s c st j acc) Post)
    (hx : ∀ a w', RF m k3 k4 c a → St F B b ls k3 k4 s eof (st + 1) acc w' → Kp (XX ls B b wS) wS w' → RPost B b ls s eof acc wS (rest md s c (st + 1)) Post → Q (.exit 0) ⟨a, []⟩ w')
    (a : Array Value) (hF : GF m k3 k4 g c st a) : Code.wp Tryz.prog gLo Q ⟨a, []⟩ w := by
  rw [gLo_eq]
  refine wp_seq (wp_block (wp_loop_rounds (s.size + 1) ?_))
  refine gr_rounds F B b ls k3 k4 g s eof acc m c st w0 md f (Exit.inBlock 1 (Exit.then (gAft.wp Tryz.prog Q) Q)) _ hC ih hfu ?_ ?_ ?_ (s.size + 1) j ga w a hF hG hl hj rfl (by omega)
  · intro j' ga' a' w' hF' hG' hl' h41 hR
    rw [hR] at hP
    show Code.wp Tryz.prog gAft Q ⟨a', []⟩ w'
    dsimp only at hP
    unfold closeG at hP
    by_cases h33 : c = 33
    · rw [if_pos h33] at hP
      exact aft33 F B b ls k3 k4 g s eof acc m c st w0 w' j' ga' wS Post Q hC hG' hks hQ h41 hl' h33 hP a' hF'
    rw [if_neg h33] at hP
    by_cases h64 : c = 64
    · rw [if_pos h64] at hP
      exact aft64 F B b ls k3 k4 g s eof acc m c st w0 w' j' ga' wS Post Q hC hG' hks hQ h41 hl' h64 hP a' hF'
    · rw [if_neg h64] at hP
      exact aftOp F B b ls k3 k4 g s eof acc m c st w0 w' j' ga' wS Post Q hC hG' hks hQ h41 hl' h33 h64 hcm hP a' hF'
  · intro a' w' hF' hL hk hR
    rw [hR] at hP
    exact hx a' w' hF'.rf (hC.st.lex hL hC.st.hi hk) (hks.XXls hk) hP
  · intro r a' w' v ha h6 hL hk hv hR
    rw [hR] at hP
    have st' := hC.st.lex (j := st + 1) (w' := w') 
    refine hQ a' w' v ha h6 (hP v w' hL ?_ (hks.XXls hk) ⟨hv.1, hv.2.1, hv.2.2.1, hv.2.2.2⟩)
    rw [List.append_nil]
    exact hC.st.Bd.lex hC.st.L hk
theorem ext_grp (F : Interp) (B b ls k3 k4 : Nat) (s : ByteArray) (eof : Value) (acc : List UInt8) (m : Int) (md : Md) (c st : Nat) (w wS : World) (f : Nat) (Post : Ending → World → Prop) (K : Act → World → Prop) (Q : Exit → Act → World → Prop)
    (hst : St F B b ls k3 k4 s eof (st + 1) acc w) (hm : Mo m md) (hx : md.ext = true) (hop : isOp c = true) (h40 : (nx s (st + 1)).1 = 40) (hks : Kp (XX ls B b wS) wS w) (hQ : RetQ Q Post) (ih : NIH F ls s eof m md f) (hfu : s.size < f + (st + 2)) (hl : acc.length ≤ 16 * (st + 1) + 64)
    (hP : RPost B b ls s eof acc wS (match grp (next md s f) s (s.size + 1) (nx s (st + 1)).2 [40] with
       | .opened => rest md s c (st + 1)
       | .err r => { r with out := [] }
       | .closed j acc => closeG s c st j acc) Post)
    (hK : ∀ a w', RF m k3 k4 c a → St F B b ls k3 k4 s eof (st + 1) acc w' → Kp (XX ls B b wS) wS w' → RPost B b ls s eof acc wS (rest md s c (st + 1)) Post → K ⟨a, []⟩ w') (a : Array Value) (hF : RF m k3 k4 c a) :
    Code.wp Tryz.prog extC (Exit.then K Q) ⟨a, []⟩ w := by
  refine hF.open (C := fun a => Code.wp Tryz.prog extC (Exit.then K Q) ⟨a, []⟩ w) fun x => ?_
  clear hF a
  have HK := Lib.hid hK
  have HS := Lib.hid hst
  have HKS := Lib.hid hks
  have HQ := Lib.hid hQ
  have HP := Lib.hid hP
  have HIH := Lib.hid ih
  have he := hm.ext1
  rw [hx] at he
  obtain ⟨e3, e4, e1, e0⟩ := hst.cells
  have hs42 := hst.base.hs
  have hi1 := hst.hi
  obtain ⟨hj0, hj1, hj2⟩ := nx_le s (st + 1) hst.hi
  have hadv := nx_adv s (st + 1) (by omega)
  have HPK := Lib.hid (peekNext_any ls s (st + 1) w hst.L hst.hi (by omega) hst.base.T)
  rw [h40] at HPK
  have H40 := Lib.hid h40
  clear hK hst hm hks hQ hP ih hx h40
  obtain rfl | rfl | rfl | rfl | rfl : c = 33 ∨ c = 63 ∨ c = 42 ∨ c = 43 ∨ c = 64 := by simpa [isOp, or_assoc] using hop
  · clear hop
    conv => arg 2; whnf
    go_wp2_with fail
    go_step3
    go_wp2_with fail
    go_step3
    go_wp2_with fail
    go_step3
    go_wp2_with fail
    refine HPK.out.mono ?_
    rintro e w1 ⟨rfl, hb1⟩
    have hS1 := HS.out.below hb1
    obtain ⟨f3, f4, f1, f0⟩ := (hS1).cells
    have hG0 : GS ls s w1 w1.heap.size (st + 1) [] (w1.alloc (.cells #[.pointer none, .slice none 0 0] 76)) :=
      ⟨(Kp.refl _ _).alloc _, (hS1.below ((Below.refl _ _).alloc (Nat.le_refl _) _)).L, Lib.IsBuilderF.of (Lib.fresh_isBuilder 76 5 w1), hi1, Nat.zero_le _⟩
    have HGC : Hid (GC F B b ls k3 k4 s eof acc st w1) := Lib.hid ⟨hS1, hl⟩
    have HN := Lib.hid (next_any ls s (st + 1) _ hG0.L hG0.hi (by omega) (hG0.st HGC.out).base.T)
    rw [H40.out] at HN
    obtain ⟨g3, g4, g1, g0⟩ := (hG0.st HGC.out).cells
    have HG0 := Lib.hid hG0
    have HKS1 := Lib.hid (HKS.out.next hb1)
    clear hb1 HPK e3 e4 e1 e0 hS1 hG0 HS HKS
    go_wp2_with fail
    refine HN.out.mono ?_
    rintro e w2 ⟨rfl, hL, hk⟩
    have hG2 := HG0.out.lex hL hj1 hj0 hk
    have HW := Lib.hid (writeRune_any w1.heap.size w1.heap.size (Lib.byteCells []) 40 (by omega) (by omega) w2 hG2.Bg (by simp [Lib.byteCells]) hG2.kp.size)
    have HG2 := Lib.hid hG2
    clear hL hk HN HG0 f3 f4 f1 f0 hG2 g3 g4 g1 g0
    go_wp2_with fail
    refine HW.out.mono ?_
    rintro e w3 ⟨rfl, hB3, hf3⟩
    have HG3 := Lib.hid (HG2.out.write (out := [40]) hB3 hf3 (by simp only [List.length_cons, List.length_nil]; omega))
    clear hB3 hf3 HG2 HW
    go_wp2_with fail
    rename_i Kx hKx
    refine wp_label (hKx _ _ ?_)
    refine grp_all F B b ls k3 k4 w1.heap.size s eof acc m _ st w1 w3 wS md f (nx s (st + 1)).2 [40] Post _ HGC.out HG3.out HKS1.out ?_ HIH.out hfu (by omega) (by simp only [List.length_cons, List.length_nil]; omega) (by omega) HP.out ?_ _ ?_
    · exact fun a w v h1 h2 h3 => HQ.out a w v h1 h2 h3
    · exact fun a w' h1 h2 h3 h4 => HK.out a w' h1 h2 h3 h4
    · exact ⟨rfl, rfl, rfl, rfl, rfl, rfl, rfl, rfl, rfl⟩
  · clear hop
    conv => arg 2; whnf
    go_wp2_with fail
    go_step3
    go_wp2_with fail
    go_step3
    go_wp2_with fail
    go_step3
    go_wp2_with fail
    refine HPK.out.mono ?_
    rintro e w1 ⟨rfl, hb1⟩
    have hS1 := HS.out.below hb1
    obtain ⟨f3, f4, f1, f0⟩ := (hS1).cells
    have hG0 : GS ls s w1 w1.heap.size (st + 1) [] (w1.alloc (.cells #[.pointer none, .slice none 0 0] 76)) :=
      ⟨(Kp.refl _ _).alloc _, (hS1.below ((Below.refl _ _).alloc (Nat.le_refl _) _)).L, Lib.IsBuilderF.of (Lib.fresh_isBuilder 76 5 w1), hi1, Nat.zero_le _⟩
    have HGC : Hid (GC F B b ls k3 k4 s eof acc st w1) := Lib.hid ⟨hS1, hl⟩
    have HN := Lib.hid (next_any ls s (st + 1) _ hG0.L hG0.hi (by omega) (hG0.st HGC.out).base.T)
    rw [H40.out] at HN
    obtain ⟨g3, g4, g1, g0⟩ := (hG0.st HGC.out).cells
    have HG0 := Lib.hid hG0
    have HKS1 := Lib.hid (HKS.out.next hb1)
    clear hb1 HPK e3 e4 e1 e0 hS1 hG0 HS HKS
    go_wp2_with fail
    refine HN.out.mono ?_
    rintro e w2 ⟨rfl, hL, hk⟩
    have hG2 := HG0.out.lex hL hj1 hj0 hk
    have HW := Lib.hid (writeRune_any w1.heap.size w1.heap.size (Lib.byteCells []) 40 (by omega) (by omega) w2 hG2.Bg (by simp [Lib.byteCells]) hG2.kp.size)
    have HG2 := Lib.hid hG2
    clear hL hk HN HG0 f3 f4 f1 f0 hG2 g3 g4 g1 g0
    go_wp2_with fail
    refine HW.out.mono ?_
    rintro e w3 ⟨rfl, hB3, hf3⟩
    have HG3 := Lib.hid (HG2.out.write (out := [40]) hB3 hf3 (by simp only [List.length_cons, List.length_nil]; omega))
    clear hB3 hf3 HG2 HW
    go_wp2_with fail
    rename_i Kx hKx
    refine wp_label (hKx _ _ ?_)
    refine grp_all F B b ls k3 k4 w1.heap.size s eof acc m _ st w1 w3 wS md f (nx s (st + 1)).2 [40] Post _ HGC.out HG3.out HKS1.out ?_ HIH.out hfu (by omega) (by simp only [List.length_cons, List.length_nil]; omega) (by omega) HP.out ?_ _ ?_
    · exact fun a w v h1 h2 h3 => HQ.out a w v h1 h2 h3
    · exact fun a w' h1 h2 h3 h4 => HK.out a w' h1 h2 h3 h4
    · exact ⟨rfl, rfl, rfl, rfl, rfl, rfl, rfl, rfl, rfl⟩
  · clear hop
    conv => arg 2; whnf
    go_wp2_with fail
    go_step3
    go_wp2_with fail
    go_step3
    go_wp2_with fail
    go_step3
    go_wp2_with fail
    refine HPK.out.mono ?_
    rintro e w1 ⟨rfl, hb1⟩
    have hS1 := HS.out.below hb1
    obtain ⟨f3, f4, f1, f0⟩ := (hS1).cells
    have hG0 : GS ls s w1 w1.heap.size (st + 1) [] (w1.alloc (.cells #[.pointer none, .slice none 0 0] 76)) :=
      ⟨(Kp.refl _ _).alloc _, (hS1.below ((Below.refl _ _).alloc (Nat.le_refl _) _)).L, Lib.IsBuilderF.of (Lib.fresh_isBuilder 76 5 w1), hi1, Nat.zero_le _⟩
    have HGC : Hid (GC F B b ls k3 k4 s eof acc st w1) := Lib.hid ⟨hS1, hl⟩
    have HN := Lib.hid (next_any ls s (st + 1) _ hG0.L hG0.hi (by omega) (hG0.st HGC.out).base.T)
    rw [H40.out] at HN
    obtain ⟨g3, g4, g1, g0⟩ := (hG0.st HGC.out).cells
    have HG0 := Lib.hid hG0
    have HKS1 := Lib.hid (HKS.out.next hb1)
    clear hb1 HPK e3 e4 e1 e0 hS1 hG0 HS HKS
    go_wp2_with fail
    refine HN.out.mono ?_
    rintro e w2 ⟨rfl, hL, hk⟩
    have hG2 := HG0.out.lex hL hj1 hj0 hk
    have HW := Lib.hid (writeRune_any w1.heap.size w1.heap.size (Lib.byteCells []) 40 (by omega) (by omega) w2 hG2.Bg (by simp [Lib.byteCells]) hG2.kp.size)
    have HG2 := Lib.hid hG2
    clear hL hk HN HG0 f3 f4 f1 f0 hG2 g3 g4 g1 g0
    go_wp2_with fail
    refine HW.out.mono ?_
    rintro e w3 ⟨rfl, hB3, hf3⟩
    have HG3 := Lib.hid (HG2.out.write (out := [40]) hB3 hf3 (by simp only [List.length_cons, List.length_nil]; omega))
    clear hB3 hf3 HG2 HW
    go_wp2_with fail
    rename_i Kx hKx
    refine wp_label (hKx _ _ ?_)
    refine grp_all F B b ls k3 k4 w1.heap.size s eof acc m _ st w1 w3 wS md f (nx s (st + 1)).2 [40] Post _ HGC.out HG3.out HKS1.out ?_ HIH.out hfu (by omega) (by simp only [List.length_cons, List.length_nil]; omega) (by omega) HP.out ?_ _ ?_
    · exact fun a w v h1 h2 h3 => HQ.out a w v h1 h2 h3
    · exact fun a w' h1 h2 h3 h4 => HK.out a w' h1 h2 h3 h4
    · exact ⟨rfl, rfl, rfl, rfl, rfl, rfl, rfl, rfl, rfl⟩
  · clear hop
    conv => arg 2; whnf
    go_wp2_with fail
    go_step3
    go_wp2_with fail
    go_step3
    go_wp2_with fail
    go_step3
    go_wp2_with fail
    refine HPK.out.mono ?_
    rintro e w1 ⟨rfl, hb1⟩
    have hS1 := HS.out.below hb1
    obtain ⟨f3, f4, f1, f0⟩ := (hS1).cells
    have hG0 : GS ls s w1 w1.heap.size (st + 1) [] (w1.alloc (.cells #[.pointer none, .slice none 0 0] 76)) :=
      ⟨(Kp.refl _ _).alloc _, (hS1.below ((Below.refl _ _).alloc (Nat.le_refl _) _)).L, Lib.IsBuilderF.of (Lib.fresh_isBuilder 76 5 w1), hi1, Nat.zero_le _⟩
    have HGC : Hid (GC F B b ls k3 k4 s eof acc st w1) := Lib.hid ⟨hS1, hl⟩
    have HN := Lib.hid (next_any ls s (st + 1) _ hG0.L hG0.hi (by omega) (hG0.st HGC.out).base.T)
    rw [H40.out] at HN
    obtain ⟨g3, g4, g1, g0⟩ := (hG0.st HGC.out).cells
    have HG0 := Lib.hid hG0
    have HKS1 := Lib.hid (HKS.out.next hb1)
    clear hb1 HPK e3 e4 e1 e0 hS1 hG0 HS HKS
    go_wp2_with fail
    refine HN.out.mono ?_
    rintro e w2 ⟨rfl, hL, hk⟩
    have hG2 := HG0.out.lex hL hj1 hj0 hk
    have HW := Lib.hid (writeRune_any w1.heap.size w1.heap.size (Lib.byteCells []) 40 (by omega) (by omega) w2 hG2.Bg (by simp [Lib.byteCells]) hG2.kp.size)
    have HG2 := Lib.hid hG2
    clear hL hk HN HG0 f3 f4 f1 f0 hG2 g3 g4 g1 g0
    go_wp2_with fail
    refine HW.out.mono ?_
    rintro e w3 ⟨rfl, hB3, hf3⟩
    have HG3 := Lib.hid (HG2.out.write (out := [40]) hB3 hf3 (by simp only [List.length_cons, List.length_nil]; omega))
    clear hB3 hf3 HG2 HW
    go_wp2_with fail
    rename_i Kx hKx
    refine wp_label (hKx _ _ ?_)
    refine grp_all F B b ls k3 k4 w1.heap.size s eof acc m _ st w1 w3 wS md f (nx s (st + 1)).2 [40] Post _ HGC.out HG3.out HKS1.out ?_ HIH.out hfu (by omega) (by simp only [List.length_cons, List.length_nil]; omega) (by omega) HP.out ?_ _ ?_
    · exact fun a w v h1 h2 h3 => HQ.out a w v h1 h2 h3
    · exact fun a w' h1 h2 h3 h4 => HK.out a w' h1 h2 h3 h4
    · exact ⟨rfl, rfl, rfl, rfl, rfl, rfl, rfl, rfl, rfl⟩
  · clear hop
    conv => arg 2; whnf
    go_wp2_with fail
    go_step3
    go_wp2_with fail
    go_step3
    go_wp2_with fail
    go_step3
    go_wp2_with fail
    refine HPK.out.mono ?_
    rintro e w1 ⟨rfl, hb1⟩
    have hS1 := HS.out.below hb1
    obtain ⟨f3, f4, f1, f0⟩ := (hS1).cells
    have hG0 : GS ls s w1 w1.heap.size (st + 1) [] (w1.alloc (.cells #[.pointer none, .slice none 0 0] 76)) :=
      ⟨(Kp.refl _ _).alloc _, (hS1.below ((Below.refl _ _).alloc (Nat.le_refl _) _)).L, Lib.IsBuilderF.of (Lib.fresh_isBuilder 76 5 w1), hi1, Nat.zero_le _⟩
    have HGC : Hid (GC F B b ls k3 k4 s eof acc st w1) := Lib.hid ⟨hS1, hl⟩
    have HN := Lib.hid (next_any ls s (st + 1) _ hG0.L hG0.hi (by omega) (hG0.st HGC.out).base.T)
    rw [H40.out] at HN
    obtain ⟨g3, g4, g1, g0⟩ := (hG0.st HGC.out).cells
    have HG0 := Lib.hid hG0
    have HKS1 := Lib.hid (HKS.out.next hb1)
    clear hb1 HPK e3 e4 e1 e0 hS1 hG0 HS HKS
    go_wp2_with fail
    refine HN.out.mono ?_
    rintro e w2 ⟨rfl, hL, hk⟩
    have hG2 := HG0.out.lex hL hj1 hj0 hk
    have HW := Lib.hid (writeRune_any w1.heap.size w1.heap.size (Lib.byteCells []) 40 (by omega) (by omega) w2 hG2.Bg (by simp [Lib.byteCells]) hG2.kp.size)
    have HG2 := Lib.hid hG2
    clear hL hk HN HG0 f3 f4 f1 f0 hG2 g3 g4 g1 g0
    go_wp2_with fail
    refine HW.out.mono ?_
    rintro e w3 ⟨rfl, hB3, hf3⟩
    have HG3 := Lib.hid (HG2.out.write (out := [40]) hB3 hf3 (by simp only [List.length_cons, List.length_nil]; omega))
    clear hB3 hf3 HG2 HW
    go_wp2_with fail
    rename_i Kx hKx
    refine wp_label (hKx _ _ ?_)
    refine grp_all F B b ls k3 k4 w1.heap.size s eof acc m _ st w1 w3 wS md f (nx s (st + 1)).2 [40] Post _ HGC.out HG3.out HKS1.out ?_ HIH.out hfu (by omega) (by simp only [List.length_cons, List.length_nil]; omega) (by omega) HP.out ?_ _ ?_
    · exact fun a w v h1 h2 h3 => HQ.out a w v h1 h2 h3
    · exact fun a w' h1 h2 h3 h4 => HK.out a w' h1 h2 h3 h4
    · exact ⟨rfl, rfl, rfl, rfl, rfl, rfl, rfl, rfl, rfl⟩
end Go.Proofs.YtpfgmiocdgfniaaGreatFmt

namespace Go.Proofs.YtpfgmiocdgfniaaGreatFmt
open Go.RowKit Go.Extern.Stop Go.Stop Go.Extern
theorem RPost.from {B b ls : Nat} {s : ByteArray} {eof : Value} {acc : List UInt8} {wS w : World} {r : Res} {Post : Ending → World → Prop} (h : RPost B b ls s eof acc wS r Post) (k : Kp (XX ls B b wS) wS w) : RPost B b ls s eof acc w r Post :=
  fun v w' hL hB hk he => h v w' hL hB (k.XXcall hk) he
theorem body_next (F : Interp) (B b ls k3 k4 : Nat) (s : ByteArray) (eof : Value) (acc : List UInt8) (m : Int) (md : Md) (f i : Nat) (w wS : World) (Post : Ending → World → Prop)
    (hm : Mo m md) (ih : NIH F ls s eof m md f) (hst : St F B b ls k3 k4 s eof (nx s i).2 acc w) (hi : i ≤ s.size) (hfu : s.size < f + 1 + i) (hl : acc.length ≤ 16 * i + 64) (hks : Kp (XX ls B b wS) wS w)
    (hP : RPost B b ls s eof acc wS (next md s (f + 1) i) Post) (a : Array Value) (hF : RF m k3 k4 (nx s i).1 a) :
    Code.wp Tryz.prog (sq2 (sq2 nbd)) (bodyPost Tryz.prog Tryz.f23 Post) ⟨a, []⟩ w := by
  have e : sq2 (sq2 nbd) = .seq extC restC := rfl
  rw [e]
  refine wp_seq ?_
  obtain ⟨b0, b1, b2⟩ := nx_le s i hi
  have hQ : RetQ (bodyPost Tryz.prog Tryz.f23 Post) Post := by
    intro a w v h1 h2 h3
    exact bodyPost_ret (v := v) (by simp [results, Tryz.results23, go_sem, h2]) rfl h3
  have hlen : acc.length ≤ 100000000000000 := by have := hst.base.hs; omega
  have hone : (nx s i).1 ≠ 0 → 1 ≤ (nx s i).2 := fun h => by have := nx_adv s i h; omega
  have plain : next md s (f + 1) i = rest md s (nx s i).1 (nx s i).2 → ∀ a w', RF m k3 k4 (nx s i).1 a → Below w.heap.size w w' → Code.wp Tryz.prog restC (bodyPost Tryz.prog Tryz.f23 Post) ⟨a, []⟩ w' := by
    intro hn a w' hF' hb
    rw [hn] at hP
    exact rest_all F B b ls k3 k4 s eof _ acc m md w' Post (hst.below hb) hm hlen _ b2 hone (hP.from (hks.next hb)) a hF'
  cases hx : md.ext with
  | false =>
    exact ext_no F B b ls k3 k4 s eof acc m md _ _ w _ _ hst hm hx (plain (by unfold next; rw [hx]; simp)) a hF
  | true =>
    cases hop : isOp (nx s i).1 with
    | false => exact ext_nop F B b ls k3 k4 s eof acc m md _ _ w _ _ hst hm hx hop (plain (by unfold next; rw [hx, hop]; simp)) a hF
    | true =>
      by_cases h40 : (nx s (nx s i).2).1 = 40
      · have h0 : (nx s i).1 ≠ 0 := by intro h; rw [h] at hop; cases hop
        have had := nx_adv s i h0
        obtain ⟨st, hst1⟩ : ∃ st, (nx s i).2 = st + 1 := ⟨(nx s i).2 - 1, by omega⟩
        have hn : next md s (f + 1) i = (match grp (next md s f) s (s.size + 1) (nx s (st + 1)).2 [40] with
            | .opened => rest md s (nx s i).1 (st + 1)
            | .err r => { r with out := [] }
            | .closed j acc => closeG s (nx s i).1 st j acc) := by
          unfold next
          rw [hx, hop, h40, hst1]
          simp only [Bool.and_self, beq_self_eq_true, if_true, Nat.add_sub_cancel]
          generalize grp (next md s f) s (s.size + 1) (nx s (st + 1)).2 [40] = gg
          cases gg <;> rfl
        rw [hn] at hP
        rw [hst1] at hst h40
        refine ext_grp F B b ls k3 k4 s eof acc m md _ st w wS f Post _ _ hst hm hx hop h40 hks hQ ih (by omega) (by omega) hP ?_ a hF
        intro a' w' hF' hst' hk' hP'
        exact rest_all F B b ls k3 k4 s eof _ acc m md w' Post hst' hm hlen _ b2 (fun _ => by omega) (hP'.from hk') a' hF'
      · exact ext_nopar F B b ls k3 k4 s eof acc m md _ _ w _ _ hst hm hx hop h40 (plain (by unfold next; rw [hx, hop]; simp [h40])) a hF
theorem next_step (F : Interp) (ls : Nat) (s : ByteArray) (eof : Value) (m : Int) (md : Md) (hm : Mo m md) (f : Nat) (ih : NIH F ls s eof m md f) : NIH F ls s eof m md (f + 1) := by
  intro B b i acc w hp hfu
  obtain ⟨w1, hw1⟩ : ∃ w1, (w.alloc (.cells #[.pointer (some ⟨b, 0, none⟩)] tPB)).alloc (.cells #[.pointer (some ⟨ls, 0, none⟩)] tPL) = w1 := ⟨_, rfl⟩
  have hb1 : Below w.heap.size w w1 := by rw [← hw1]; exact ((Below.refl _ _).alloc (Nat.le_refl _) _).alloc (by simp) _
  have hbase : Base F ls b w.heap.size (w.heap.size + 1) s eof w1 := by
    refine ⟨⟨fun c hc => (Kp.of_below (X := fun _ => False) hb1).cell id (hp.T.1 c hc), fun i hi => ⟨(Kp.of_below (X := fun _ => False) hb1).cell id (hp.T.2 i hi).1, (Kp.of_below (X := fun _ => False) hb1).cell id (hp.T.2 i hi).2⟩⟩, (Kp.of_below (X := fun _ => False) hb1).cell id hp.E, ?_, ?_, by rw [hb1.tape]; exact hp.F, hp.gl, hp.hs⟩
    · rw [← hw1, Lib.alloc_old _ _ _ (by simp)]; exact alloc_at _ _
    · rw [← hw1]; have := alloc_at (w.alloc (.cells #[.pointer (some ⟨b, 0, none⟩)] tPB)) (.cells #[.pointer (some ⟨ls, 0, none⟩)] tPL); simpa using this
  have hL1 : Lx ls s i w1 := hp.L.kept (X := fun _ => False) (.of_below hb1) id
  have hst1 : St F B b ls w.heap.size (w.heap.size + 1) s eof i acc w1 := ⟨hbase, hL1, hp.Bd.below hb1, Nat.le_trans hp.sz hb1.size, hp.gB, hp.hi⟩
  obtain ⟨b0, b1, b2⟩ := nx_le s i hp.hi
  have HN := Lib.hid (next_any ls s i w1 hL1 hp.hi (by have := hp.hs; omega) hbase.T)
  rw [← hw1] at HN
  have HB := Lib.hid (fun w2 hst hks a hF => body_next F B b ls w.heap.size (w.heap.size + 1) s eof acc m md f i w2 w (NPost B b ls s eof acc w (next md s (f + 1) i)) hm ih hst hp.hi hfu hp.len hks (fun v w' hL hB hk he => ⟨hL, hB, hk, v, rfl, he⟩) a hF)
  have HS := Lib.hid hst1
  have HK1 := Lib.hid (Kp.of_below hb1 : Kp (XX ls B b w) w w1)
  have HW1 := Lib.hid hw1
  clear hst1 hL1 hbase hb1 hp hfu ih hm hw1
  go_enter Tryz.func23, Tryz.ntmps23
  go_wp2_with fail
  rename_i K hK K2 hK2
  have HKK := Lib.hid hK
  clear hK
  refine HN.out.mono ?_
  rintro e w2 ⟨rfl, hL, hk⟩
  rw [HW1.out] at hk
  have HS2 := Lib.hid (HS.out.lex hL b1 hk)
  have HK2 := Lib.hid (HK1.out.XXls hk)
  clear hL hk HN HS HK1 HW1
  go_wp2_with fail
  refine HKK.out _ _ ?_
  refine HB.out _ HS2.out HK2.out _ ?_
  exact ⟨rfl, rfl, rfl, rfl, rfl, rfl⟩
theorem next_walk (F : Interp) (ls : Nat) (s : ByteArray) (eof : Value) (m : Int) (md : Md) (hm : Mo m md) : ∀ f, NIH F ls s eof m md f
  | 0 => fun B b i acc w hp hfu => by have := hp.hi; omega
  | f + 1 => next_step F ls s eof m md hm f (next_walk F ls s eof m md hm f)
end Go.Proofs.YtpfgmiocdgfniaaGreatFmt
