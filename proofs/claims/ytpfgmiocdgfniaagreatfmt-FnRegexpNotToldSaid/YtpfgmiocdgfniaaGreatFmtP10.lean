/- Joined by pack.py: BrH. -/
import Derived.Test.YtpfgmiocdgfniaaGreatFmtP09
import Derived.Deep.RegionHeld3
set_option linter.unusedVariables false
set_option maxHeartbeats 8000000
set_option maxRecDepth 1000000
namespace Go.Proofs.YtpfgmiocdgfniaaGreatFmt
open Go.RowKit Go.Extern.Stop Go.Stop Go.Extern
theorem not_bx {w : World} {kl B b : Nat} {c : Array Value} {bs : List Value} (h : w.heap[kl]? = some (.cells c 3 (0, 0))) (hB : IsB B b bs w) : ¬ BX B b w kl := by
  obtain ⟨_, _, cb, hb⟩ := hB.block
  rintro (e | ⟨_, hr⟩)
  · exact heap_ne h hb (by decide) e
  · exact not_row h (by decide) hr
theorem rd_cl1 (F : Interp) (B b ls k3 k4 kl g : Nat) (s : ByteArray) (eof : Value) (lit : Nat) (acc : List UInt8) (m : Int) (fil : Bool) (w0 w : World) (c i : Nat) (bs : List UInt8) (sl de ce : Bool) (dv cv : Value) (wS : World) (Post : Ending → World → Prop) (K : Act → World → Prop) (Q : Exit → Act → World → Prop)
    (hC : BC F B b ls k3 k4 kl s eof acc lit w0) (hB : BS ls s w0 g i bs de ce dv cv w) (hks : Kp (XX ls B b wS) wS w0) (hQ : RetQ Q Post) (hc : c = 93) (hsl : sl = true) (hli : lit ≤ i) (hP : RPost B b ls s eof acc wS ⟨0, 0, i, rq (s.extract (lit - 1) i).data.toList⟩ Post) (a : Array Value) (hF : LF m k3 k4 kl g fil c sl dv cv a) :
    Code.wp Tryz.prog brBody (Exit.then K Q) ⟨a, []⟩ w := by
  refine hF.open (C := fun a => Code.wp Tryz.prog brBody (Exit.then K Q) ⟨a, []⟩ w) fun x => ?_
  clear hF a
  subst hc
  subst hsl
  have HP := Lib.hid hP
  have HQ := Lib.hid hQ
  have hst := hB.st hC
  obtain ⟨e3, e4, e1, e0⟩ := (hst).cells
  have ekl := hB.klc hC
  have HKLH := Lib.hid (hB.klh hC)
  have hl1 := hC.lit1
  have hi := hB.hi
  have hs42 := hC.st.base.hs
  have hlen := hC.len
  have HKS := Lib.hid (hks.XXls hB.kp)
  have HS := Lib.hid hst
  have hz1 : IntKind.i64.wrap ((lit : Int) - 1) = (lit : Int) - 1 := IntWalk.i64_in _ (by omega)
  have hz2 : (0 : Int) ≤ (lit : Int) - 1 := by omega
  have hz3 : (lit : Int) - 1 ≤ (i : Int) := by omega
  have hz4 : (i : Int) ≤ (s.size : Int) := by omega
  have hz5 : ((lit : Int) - 1).toNat = lit - 1 := by omega
  have hz6 : (1 : Int) ≤ (lit : Int) := by omega
  clear hC hB hst hP hks hQ
  have hxs : (s.extract (lit - 1) i).size ≤ 4398046511104 := by rw [ByteArray.size_extract]; omega
  have hrz : (ByteArray.mk (rq (s.extract (lit - 1) i).data.toList).toArray).size ≤ 8796093022208 := by
    have h := rq_len (s.extract (lit - 1) i).data.toList
    rw [Pat.size_toList] at h
    show (rq (s.extract (lit - 1) i).data.toList).toArray.size ≤ _
    rw [List.size_toArray]
    omega
  generalize hxx : s.extract (lit - 1) i = xx at *
  conv => arg 2; whnf
  go_wp2_with fail
  go_region_held3 (fun w' => w'.cell? ⟨k3, 0, none⟩ = some (.pointer (some ⟨b, 0, none⟩)) ∧ w'.cell? ⟨k4, 0, none⟩ = some (.pointer (some ⟨ls, 0, none⟩)) ∧ w'.cell? ⟨ls, 1, none⟩ = some (.int .i64 (i : Int)) ∧ w'.cell? ⟨ls, 0, none⟩ = some (.string s) ∧ w'.cell? ⟨kl, 0, none⟩ = some (.int .i64 (lit : Int))) (go_keep) (first | (go_at_call 42; refine (zzQuoteMeta_any xx _ (by omega)).mono ?_; rintro e w1 ⟨rfl, hb1⟩; have st1 := HS.out.below ((Below.refl _ _).drew.trans hb1); obtain ⟨e31, e41, e11, e01⟩ := st1.cells; have ekl1 := (Kp.of_below (X := fun _ => False) hb1).cell (b := kl) (o := 0) id ekl; have HKL1 := Lib.hid ((Kp.of_below (X := fun _ => False) hb1).heap (b := kl) id HKLH.out); have HS1 := Lib.hid st1; have HKS1 := Lib.hid (HKS.out.next ((Below.refl _ _).drew.trans hb1)); clear st1 hb1) | (go_at_call 22; refine (writeString_any B b (Lib.byteCells acc) _ _ HS1.out.Bd (by simp only [Lib.byteCells, List.length_map]; omega) HS1.out.sz).mono ?_; rintro e w' ⟨rfl, hBx, hfr⟩; have st' := HS1.out.write (out := rq xx.data.toList) hBx hfr; obtain ⟨e32, e42, e12, e02⟩ := st'.cells; have ekl2 := hfr.kp.cell (b := kl) (o := 0) (not_bx HKL1.out HS1.out.Bd) ekl1; have HE := Lib.hid (HP.out.use st'.L st'.Bd (HKS1.out.XXwrite hfr) (err0 _ _ _ _)); clear st' hBx hfr))
  all_goals
    go_wp2_with fail
    exact HQ.out.use rfl rfl HE.out
theorem rd_cl2 (F : Interp) (B b ls k3 k4 kl g : Nat) (s : ByteArray) (eof : Value) (lit : Nat) (acc : List UInt8) (m : Int) (fil : Bool) (w0 w : World) (c i : Nat) (bs : List UInt8) (sl de ce : Bool) (dv cv : Value) (wS : World) (Post : Ending → World → Prop) (K : Act → World → Prop) (Q : Exit → Act → World → Prop)
    (hC : BC F B b ls k3 k4 kl s eof acc lit w0) (hB : BS ls s w0 g i bs de ce dv cv w) (hks : Kp (XX ls B b wS) wS w0) (hQ : RetQ Q Post) (hc : c = 93) (hsl : sl = false) (hde : de = true) (hP : RPost B b ls s eof acc wS ⟨3, 0, i, []⟩ Post) (a : Array Value) (hF : LF m k3 k4 kl g fil c sl dv cv a) :
    Code.wp Tryz.prog brBody (Exit.then K Q) ⟨a, []⟩ w := by
  refine hF.open (C := fun a => Code.wp Tryz.prog brBody (Exit.then K Q) ⟨a, []⟩ w) fun x => ?_
  clear hF a
  subst hc
  subst hsl
  subst hde
  have HQ := Lib.hid hQ
  have hst := hB.st hC
  have hsy := hB.D.1 rfl
  have HE := Lib.hid (hP.use hst.L (by rw [List.append_nil]; exact hst.Bd) (hks.XXls hB.kp) (err3 hsy))
  obtain ⟨p, mm, u, rfl, hp, hu⟩ := hsy
  clear hC hB hst hP hks hQ hp hu
  conv => arg 2; whnf
  go_wp2_with fail
  exact HQ.out.use rfl rfl HE.out
theorem rd_cl3 (F : Interp) (B b ls k3 k4 kl g : Nat) (s : ByteArray) (eof : Value) (lit : Nat) (acc : List UInt8) (m : Int) (fil : Bool) (w0 w : World) (c i : Nat) (bs : List UInt8) (sl de ce : Bool) (dv cv : Value) (wS : World) (Post : Ending → World → Prop) (K : Act → World → Prop) (Q : Exit → Act → World → Prop)
    (hC : BC F B b ls k3 k4 kl s eof acc lit w0) (hB : BS ls s w0 g i bs de ce dv cv w) (hks : Kp (XX ls B b wS) wS w0) (hQ : RetQ Q Post) (hc : c = 93) (hsl : sl = false) (hde : de = false) (hl8 : bs.length + 8 ≤ 8 * i) (hP : RPost B b ls s eof acc wS ⟨0, 0, i, bs ++ [93]⟩ Post) (a : Array Value) (hF : LF m k3 k4 kl g fil c sl dv cv a) :
    Code.wp Tryz.prog brBody (Exit.then K Q) ⟨a, []⟩ w := by
  refine hF.open (C := fun a => Code.wp Tryz.prog brBody (Exit.then K Q) ⟨a, []⟩ w) fun x => ?_
  clear hF a
  subst hc
  subst hsl
  subst hde
  have HP := Lib.hid hP
  have HQ := Lib.hid hQ
  obtain rfl := hB.D.2 rfl
  have hr := hB.room hC
  have hsz := hB.kp.size
  have hlen := hC.len
  have HC := Lib.hid hC
  have HB := Lib.hid hB
  have HKS := Lib.hid hks
  obtain ⟨e3, e4, e1, e0⟩ := (hB.st hC).cells
  have HW := Lib.hid (writeByte_any w0.heap.size g (Lib.byteCells bs) 93 w hB.Bg (by omega) hsz)
  clear hC hB hP hks hQ
  conv => arg 2; whnf
  go_wp2_with fail
  refine HW.out.mono ?_
  rintro e w1 ⟨rfl, hB1, hf1⟩
  have hW1 := (HB.out.write (out := [93]) hB1 hf1).toB (by rw [List.length_append]; simp only [List.length_cons, List.length_nil]; omega)
  obtain ⟨f3, f4, f1, f0⟩ := (hW1.st HC.out).cells
  have hW2 := hW1.below (Below.refl _ _).drew
  have HW2 := Lib.hid hW2
  have hbz : (ByteArray.mk (bs ++ [93]).toArray).size ≤ 35184372088833 := by
    show (bs ++ [93]).toArray.size ≤ _
    rw [List.size_toArray, List.length_append]
    simp only [Lib.byteCells, List.length_map] at hr
    simp only [List.length_cons, List.length_nil]
    omega
  have HST := Lib.hid (Tryz.Builder_String_any_k w0.heap.size g (bs ++ [93]) w1.drew hW2.Bg hW2.kp.size)
  clear hB1 hf1 HB HW e3 e4 e1 e0 hW1 hW2
  go_wp2_with fail
  go_region_with (first | (go_at_call 24; refine HST.out.mono ?_; rintro e w2 ⟨rfl, hB2, hq2, ho2⟩; have hV2 := HW2.out.write (out := []) (by simpa [Lib.byteCells] using hB2) ⟨hq2, ho2⟩; have hS2 := hV2.st HC.out; have e32 := hS2.cells.1; have HS2 := Lib.hid hS2; have HK2 := Lib.hid (HKS.out.XXls hV2.kp); clear hV2 hS2 hB2 hq2 ho2) | (go_at_call 22; refine (writeString_any B b (Lib.byteCells acc) _ _ HS2.out.Bd (by simp only [Lib.byteCells, List.length_map]; omega) HS2.out.sz).mono ?_; rintro e w' ⟨rfl, hBx, hfr⟩))
  all_goals
    have st' := HS2.out.write (out := bs ++ [93]) hBx hfr
    have HE := Lib.hid (HP.out.use st'.L st'.Bd (HK2.out.XXwrite hfr) (err0 _ _ _ _))
    clear st' hBx hfr
    go_wp2_with fail
    exact HQ.out.use rfl rfl HE.out
end Go.Proofs.YtpfgmiocdgfniaaGreatFmt
