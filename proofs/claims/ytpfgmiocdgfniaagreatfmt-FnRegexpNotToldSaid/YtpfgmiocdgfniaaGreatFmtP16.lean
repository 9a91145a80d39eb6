/- Joined by pack.py: GrP. -/
import Derived.Test.YtpfgmiocdgfniaaGreatFmtP15
set_option linter.unusedVariables false
set_option maxHeartbeats 8000000
set_option maxRecDepth 1000000
namespace Go.Proofs.YtpfgmiocdgfniaaGreatFmt
open Go.RowKit Go.Extern.Stop Go.Stop Go.Extern
theorem neg_err (w : World) (a e : Nat) (out : List UInt8) (eof : Value) : ErrIs eof ⟨2, a, e, out⟩ ((w.alloc (.cells #[.int .i64 (a : Int), .int .i64 (e : Int)] 60)).alloc (.cells #[.slice (some ⟨w.heap.size, 0, none⟩) 1 1] 58)) (.iface 53 (.pointer (some ⟨w.heap.size + 1, 0, none⟩))) := by
  refine ⟨fun h => (by cases h), fun h => (by cases h), fun _ => ⟨w.heap.size + 1, w.heap.size, rfl, ?_, ?_⟩, fun h => (by cases h)⟩
  · exact alloc2_at w _ _
  · rw [Lib.alloc_old _ _ _ (by simp)]
    exact alloc_at _ _
theorem aft64 (F : Interp) (B b ls k3 k4 g : Nat) (s : ByteArray) (eof : Value) (acc : List UInt8) (m : Int) (c st : Nat) (w0 w : World) (j : Nat) (ga : List UInt8) (wS : World) (Post : Ending → World → Prop) (Q : Exit → Act → World → Prop) (hC : GC F B b ls k3 k4 s eof acc st w0) (hG : GS ls s w0 g j ga w) (hks : Kp (XX ls B b wS) wS w0) (hQ : RetQ Q Post) (h41 : (nx s j).1 = 41) (hlj : acc.length + ga.length ≤ 16 * j + 64) (hc : c = 64)
    (hP : RPost B b ls s eof acc wS ⟨0, 0, (nx s j).2, ga ++ [41]⟩ Post) (a : Array Value) (hF : GF m k3 k4 g c st a) :
    Code.wp Tryz.prog gAft Q ⟨a, []⟩ w := by
  refine hF.open (C := fun a => Code.wp Tryz.prog gAft Q ⟨a, []⟩ w) fun x => ?_
  clear hF a
  have HC := Lib.hid hC
  have HG := Lib.hid hG
  have hs42 := hC.st.base.hs
  have hi := hG.hi
  have hgl := hG.gl
  have hroom := hG.room hC
  have hsz := hG.kp.size
  obtain ⟨hj0, hj1, hj2⟩ := nx_le s j hG.hi
  obtain ⟨e3, e4, e1, e0⟩ := (hG.st hC).cells
  have HQ := Lib.hid hQ
  have HP := Lib.hid hP
  have HKS := Lib.hid hks
  have hlen := hC.alen
  have hsi := hC.st.hi
  obtain ⟨hq1, hq2⟩ := nx_adv s j (by omega)
  have HN := Lib.hid (next_any ls s j w hG.L hG.hi (by omega) (hG.st hC).base.T)
  rw [h41] at HN
  subst hc
  clear hC hG hQ hP hks h41
  conv => arg 2; whnf
  go_wp2_with fail
  refine HN.out.mono ?_
  rintro e w1 ⟨rfl, hL, hk⟩
  have hG1 := HG.out.lex hL hj1 hj0 hk
  have HW := Lib.hid (writeRune_any w0.heap.size g (Lib.byteCells ga) 41 (by omega) (by omega) w1 hG1.Bg (by omega) hG1.kp.size)
  have HG1 := Lib.hid hG1
  clear hL hk HN HG e3 e4 e1 e0 hG1
  go_wp2_with fail
  refine HW.out.mono ?_
  rintro e w2 ⟨rfl, hB2, hf2⟩
  have hG2 := HG1.out.write (out := [41]) hB2 hf2 (by simp only [List.length_cons, List.length_nil]; omega)
  obtain ⟨f3, f4, f1, f0⟩ := (hG2.st HC.out).cells
  have hG3 := hG2.below (Below.refl _ _).drew
  have HG3 := Lib.hid hG3
  have hbz : (ByteArray.mk (ga ++ [41]).toArray).size ≤ ga.length + 1 := by
    show (ga ++ [41]).toArray.size ≤ _
    rw [List.size_toArray, List.length_append]
    simp only [List.length_cons, List.length_nil]
    omega
  have HST := Lib.hid (Tryz.Builder_String_any_k w0.heap.size g (ga ++ [41]) w2.drew hG3.Bg hG3.kp.size)
  clear hB2 hf2 HG1 HW hG2 hG3
  go_wp2_with fail
  go_region_with (first | (go_at_call 24; refine HST.out.mono ?_; rintro e w3 ⟨rfl, hB3, hq3, ho3⟩; have hV3 := HG3.out.write (out := []) (by simpa [Lib.byteCells] using hB3) ⟨hq3, ho3⟩ (by have := HG3.out.gl; simpa using this); have hS3 := hV3.st HC.out; have e33 := hS3.cells.1; have HS3 := Lib.hid hS3; have HK3 := Lib.hid (HKS.out.XXls hV3.kp); clear hV3 hS3 hB3 hq3 ho3) | (go_at_call 22; refine (writeString_any B b (Lib.byteCells acc) _ _ HS3.out.Bd (by simp only [Lib.byteCells, List.length_map]; omega) HS3.out.sz).mono ?_; rintro e w4 ⟨rfl, hBx, hfr⟩))
  all_goals
    have st4 := HS3.out.write (out := ga ++ [41]) hBx hfr
    obtain ⟨q3, q4, q1, q0⟩ := st4.cells
    have HS4 := Lib.hid st4
    have HK4 := Lib.hid (HK3.out.XXwrite hfr)
    clear st4 hBx hfr
    have HE := Lib.hid (HP.out.use HS4.out.L HS4.out.Bd HK4.out (err0 _ _ _ _))
    go_wp2_with fail
    exact HQ.out.use rfl rfl HE.out
theorem aft33 (F : Interp) (B b ls k3 k4 g : Nat) (s : ByteArray) (eof : Value) (acc : List UInt8) (m : Int) (c st : Nat) (w0 w : World) (j : Nat) (ga : List UInt8) (wS : World) (Post : Ending → World → Prop) (Q : Exit → Act → World → Prop) (hC : GC F B b ls k3 k4 s eof acc st w0) (hG : GS ls s w0 g j ga w) (hks : Kp (XX ls B b wS) wS w0) (hQ : RetQ Q Post) (h41 : (nx s j).1 = 41) (hlj : acc.length + ga.length ≤ 16 * j + 64) (hc : c = 33)
    (hP : RPost B b ls s eof acc wS ⟨2, st, (nx s j).2, ga ++ [41]⟩ Post) (a : Array Value) (hF : GF m k3 k4 g c st a) :
    Code.wp Tryz.prog gAft Q ⟨a, []⟩ w := by
  refine hF.open (C := fun a => Code.wp Tryz.prog gAft Q ⟨a, []⟩ w) fun x => ?_
  clear hF a
  have HC := Lib.hid hC
  have HG := Lib.hid hG
  have hs42 := hC.st.base.hs
  have hi := hG.hi
  have hgl := hG.gl
  have hroom := hG.room hC
  have hsz := hG.kp.size
  obtain ⟨hj0, hj1, hj2⟩ := nx_le s j hG.hi
  obtain ⟨e3, e4, e1, e0⟩ := (hG.st hC).cells
  have HQ := Lib.hid hQ
  have HP := Lib.hid hP
  have HKS := Lib.hid hks
  have hlen := hC.alen
  have hsi := hC.st.hi
  obtain ⟨hq1, hq2⟩ := nx_adv s j (by omega)
  have HN := Lib.hid (next_any ls s j w hG.L hG.hi (by omega) (hG.st hC).base.T)
  rw [h41] at HN
  subst hc
  clear hC hG hQ hP hks h41
  conv => arg 2; whnf
  go_wp2_with fail
  refine HN.out.mono ?_
  rintro e w1 ⟨rfl, hL, hk⟩
  have hG1 := HG.out.lex hL hj1 hj0 hk
  have HW := Lib.hid (writeRune_any w0.heap.size g (Lib.byteCells ga) 41 (by omega) (by omega) w1 hG1.Bg (by omega) hG1.kp.size)
  have HG1 := Lib.hid hG1
  clear hL hk HN HG e3 e4 e1 e0 hG1
  go_wp2_with fail
  refine HW.out.mono ?_
  rintro e w2 ⟨rfl, hB2, hf2⟩
  have hG2 := HG1.out.write (out := [41]) hB2 hf2 (by simp only [List.length_cons, List.length_nil]; omega)
  obtain ⟨f3, f4, f1, f0⟩ := (hG2.st HC.out).cells
  have hG3 := hG2.below (Below.refl _ _).drew
  have HG3 := Lib.hid hG3
  have hbz : (ByteArray.mk (ga ++ [41]).toArray).size ≤ ga.length + 1 := by
    show (ga ++ [41]).toArray.size ≤ _
    rw [List.size_toArray, List.length_append]
    simp only [List.length_cons, List.length_nil]
    omega
  have HST := Lib.hid (Tryz.Builder_String_any_k w0.heap.size g (ga ++ [41]) w2.drew hG3.Bg hG3.kp.size)
  clear hB2 hf2 HG1 HW hG2 hG3
  go_wp2_with fail
  go_region_with (first | (go_at_call 24; refine HST.out.mono ?_; rintro e w3 ⟨rfl, hB3, hq3, ho3⟩; have hV3 := HG3.out.write (out := []) (by simpa [Lib.byteCells] using hB3) ⟨hq3, ho3⟩ (by have := HG3.out.gl; simpa using this); have hS3 := hV3.st HC.out; have e33 := hS3.cells.1; have HS3 := Lib.hid hS3; have HK3 := Lib.hid (HKS.out.XXls hV3.kp); clear hV3 hS3 hB3 hq3 ho3) | (go_at_call 22; refine (writeString_any B b (Lib.byteCells acc) _ _ HS3.out.Bd (by simp only [Lib.byteCells, List.length_map]; omega) HS3.out.sz).mono ?_; rintro e w4 ⟨rfl, hBx, hfr⟩))
  all_goals
    have st4 := HS3.out.write (out := ga ++ [41]) hBx hfr
    obtain ⟨q3, q4, q1, q0⟩ := st4.cells
    have HS4 := Lib.hid st4
    have HK4 := Lib.hid (HK3.out.XXwrite hfr)
    clear st4 hBx hfr
    go_wp2_with fail
    refine HQ.out.use rfl rfl (HP.out.use ?_ ?_ ?_ ?_)
    case refine_1 => exact (HS4.out.below (((Below.refl _ _).alloc (Nat.le_refl _) _).alloc (by simp) _)).L
    case refine_2 => exact (HS4.out.below (((Below.refl _ _).alloc (Nat.le_refl _) _).alloc (by simp) _)).Bd
    case refine_3 => exact HK4.out.next (((Below.refl _ _).alloc (Nat.le_refl _) _).alloc (by simp) _)
    case refine_4 => exact neg_err _ _ _ _ _
theorem aftOp (F : Interp) (B b ls k3 k4 g : Nat) (s : ByteArray) (eof : Value) (acc : List UInt8) (m : Int) (c st : Nat) (w0 w : World) (j : Nat) (ga : List UInt8) (wS : World) (Post : Ending → World → Prop) (Q : Exit → Act → World → Prop) (hC : GC F B b ls k3 k4 s eof acc st w0) (hG : GS ls s w0 g j ga w) (hks : Kp (XX ls B b wS) wS w0) (hQ : RetQ Q Post) (h41 : (nx s j).1 = 41) (hlj : acc.length + ga.length ≤ 16 * j + 64) (hc33 : c ≠ 33) (hc64 : c ≠ 64) (hcm : c ≤ 1114111)
    (hP : RPost B b ls s eof acc wS ⟨0, 0, (nx s j).2, ga ++ [41] ++ en c⟩ Post) (a : Array Value) (hF : GF m k3 k4 g c st a) :
    Code.wp Tryz.prog gAft Q ⟨a, []⟩ w := by
  refine hF.open (C := fun a => Code.wp Tryz.prog gAft Q ⟨a, []⟩ w) fun x => ?_
  clear hF a
  have HC := Lib.hid hC
  have HG := Lib.hid hG
  have hs42 := hC.st.base.hs
  have hi := hG.hi
  have hgl := hG.gl
  have hroom := hG.room hC
  have hsz := hG.kp.size
  obtain ⟨hj0, hj1, hj2⟩ := nx_le s j hG.hi
  obtain ⟨e3, e4, e1, e0⟩ := (hG.st hC).cells
  have HQ := Lib.hid hQ
  have HP := Lib.hid hP
  have HKS := Lib.hid hks
  have hlen := hC.alen
  have hsi := hC.st.hi
  obtain ⟨hq1, hq2⟩ := nx_adv s j (by omega)
  have HN := Lib.hid (next_any ls s j w hG.L hG.hi (by omega) (hG.st hC).base.T)
  rw [h41] at HN
  have b33 : ((c : Int) == 33) = false := by rw [beq_eq_false_iff_ne]; omega
  have b64 : ((c : Int) != 64) = true := by rw [bne_iff_ne]; omega
  clear hc33 hc64
  clear hC hG hQ hP hks h41
  conv => arg 2; whnf
  go_wp2_with fail
  refine HN.out.mono ?_
  rintro e w1 ⟨rfl, hL, hk⟩
  have hG1 := HG.out.lex hL hj1 hj0 hk
  have HW := Lib.hid (writeRune_any w0.heap.size g (Lib.byteCells ga) 41 (by omega) (by omega) w1 hG1.Bg (by omega) hG1.kp.size)
  have HG1 := Lib.hid hG1
  clear hL hk HN HG e3 e4 e1 e0 hG1
  go_wp2_with fail
  refine HW.out.mono ?_
  rintro e w2 ⟨rfl, hB2, hf2⟩
  have hG2 := HG1.out.write (out := [41]) hB2 hf2 (by simp only [List.length_cons, List.length_nil]; omega)
  obtain ⟨f3, f4, f1, f0⟩ := (hG2.st HC.out).cells
  have hG3 := hG2.below (Below.refl _ _).drew
  have HG3 := Lib.hid hG3
  have hbz : (ByteArray.mk (ga ++ [41]).toArray).size ≤ ga.length + 1 := by
    show (ga ++ [41]).toArray.size ≤ _
    rw [List.size_toArray, List.length_append]
    simp only [List.length_cons, List.length_nil]
    omega
  have HST := Lib.hid (Tryz.Builder_String_any_k w0.heap.size g (ga ++ [41]) w2.drew hG3.Bg hG3.kp.size)
  clear hB2 hf2 HG1 HW hG2 hG3
  go_wp2_with fail
  go_region_with (first | (go_at_call 24; refine HST.out.mono ?_; rintro e w3 ⟨rfl, hB3, hq3, ho3⟩; have hV3 := HG3.out.write (out := []) (by simpa [Lib.byteCells] using hB3) ⟨hq3, ho3⟩ (by have := HG3.out.gl; simpa using this); have hS3 := hV3.st HC.out; have e33 := hS3.cells.1; have HS3 := Lib.hid hS3; have HK3 := Lib.hid (HKS.out.XXls hV3.kp); clear hV3 hS3 hB3 hq3 ho3) | (go_at_call 22; refine (writeString_any B b (Lib.byteCells acc) _ _ HS3.out.Bd (by simp only [Lib.byteCells, List.length_map]; omega) HS3.out.sz).mono ?_; rintro e w4 ⟨rfl, hBx, hfr⟩))
  all_goals
    have st4 := HS3.out.write (out := ga ++ [41]) hBx hfr
    obtain ⟨q3, q4, q1, q0⟩ := st4.cells
    have HS4 := Lib.hid st4
    have HK4 := Lib.hid (HK3.out.XXwrite hfr)
    clear st4 hBx hfr
    have HW5 := Lib.hid (writeRune_any B b (Lib.byteCells (acc ++ (ga ++ [41]))) c (by omega) (by omega) w4 HS4.out.Bd (by simp only [Lib.byteCells, List.length_map, List.length_append, List.length_cons, List.length_nil] at hroom ⊢; omega) HS4.out.sz)
    go_wp2_with fail
    refine HW5.out.mono ?_
    rintro e w5 ⟨rfl, hB5, hf5⟩
    rw [en_cells] at hB5
    have st5 := HS4.out.write (out := en c) hB5 hf5
    have HE := Lib.hid (HP.out.use st5.L (by have := st5.Bd; simpa [List.append_assoc] using this) (HK4.out.XXwrite hf5) (err0 _ _ _ _))
    clear st5 hB5 hf5
    go_wp2_with fail
    exact HQ.out.use rfl rfl HE.out
end Go.Proofs.YtpfgmiocdgfniaaGreatFmt
