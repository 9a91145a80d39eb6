/- Joined by pack.py: BrK, BrL, BrM, BrP. -/
import Derived.Test.YtonifkkdokaooaaFmtP29
import Derived.LoopN
/- Walk: the bracket's loop in regexpNext, a round by its case. Printed by gen_br.py. -/
namespace Go.Proofs.YtonifkkdokaooaaFmt
open Go.RowKit Go.Extern.Stop Go.Stop Go.Extern
set_option linter.unusedVariables false

theorem contains_false (x : ByteArray) (w : World) (hs : x.size ≤ 4611686018427387904) (h : (idx x.data.toList [47]).isSome = false) :
    Calls Tryf.prog 51 #[.string x, .string ⟨#[47]⟩] w fun e w' => e = .returned (.bool false) ∧ w = w' := by
  have hc := zzContains_any x ⟨#[47]⟩ w hs (by decide)
  have e : (idx x.data.toList (ByteArray.mk #[47]).data.toList).isSome = false := h
  rw [e] at hc
  exact hc
theorem contains_true (x : ByteArray) (w : World) (hs : x.size ≤ 4611686018427387904) (h : (idx x.data.toList [47]).isSome = true) :
    Calls Tryf.prog 51 #[.string x, .string ⟨#[47]⟩] w fun e w' => e = .returned (.bool true) ∧ w = w' := by
  have hc := zzContains_any x ⟨#[47]⟩ w hs (by decide)
  have e : (idx x.data.toList (ByteArray.mk #[47]).data.toList).isSome = true := h
  rw [e] at hc
  exact hc
set_option maxRecDepth 1000000 in
set_option maxHeartbeats 8000000 in
theorem op2_b (F : Interp) (B b ls k3 k4 kl g : Nat) (s : ByteArray) (eof : Value) (lit : Nat) (acc : List UInt8) (m : Int) (fil : Bool) (w0 w : World) (c i : Nat) (bs : List UInt8) (sl de ce : Bool) (dv cv : Value) (r : ByteArray) (n : Nat) (ev : Value) (Q : Exit → Act → World → Prop)
    (hC : BC F B b ls k3 k4 kl s eof acc lit w0) (hB : BS ls s w0 g i bs de ce dv cv w) (hl8 : bs.length + 8 ≤ 8 * i) (hrs : i + r.size ≤ s.size) (hn0 : 0 < n) (hnr : n ≤ r.size) (hfl : fil = true) (hct : (idx (r.extract 0 n).data.toList [47]).isSome = false)
    (hK : ∀ a w', LF m k3 k4 kl g fil c sl dv cv a → BS ls s w0 g (i + n) (bs ++ (91 :: (r.extract 0 n).data.toList)) de ce dv cv w' → Q .normal ⟨a, []⟩ w') (a : Array Value) (hF : LF m k3 k4 kl g fil c sl dv cv a) (h24 : a[24]? = some (.string r)) (h25 : a[25]? = some (.int .i64 (n : Int))) (h26 : a[26]? = some ev) :
    Code.wp Tryf.prog opW Q ⟨a, []⟩ w := by
  refine hF.open3 (C := fun a => Code.wp Tryf.prog opW Q ⟨a, []⟩ w) h24 h25 h26 fun x => ?_
  clear hF h24 h25 h26 a
  have HC := Lib.hid hC
  have HB := Lib.hid hB
  have HK := Lib.hid hK
  have hr := hB.room hC
  have hbl := hB.bl
  have hsz := hB.kp.size
  have hs42 := hC.st.base.hs
  have hi := hB.hi
  subst hfl
  have hn1 : (0 : Int) < (n : Int) := by omega
  have hn2 : (n : Int) ≤ (r.size : Int) := by omega
  have hn3 : (0 : Int) ≤ (n : Int) := by omega
  have HZC := Lib.hid (fun w' => contains_false (r.extract 0 n) w' (by rw [ByteArray.size_extract]; omega) hct)
  clear hct
  have HW := Lib.hid (writeByte_any w0.heap.size g (Lib.byteCells bs) 91 w hB.Bg (by omega) hsz)
  clear hC hB hK
  conv => arg 2; whnf
  go_wp2_with fail
  refine HW.out.mono ?_
  rintro e w1 ⟨rfl, hB1, hf1⟩
  have hW1 := (HB.out.write (out := [91]) hB1 hf1).toB (by rw [List.length_append]; simp only [List.length_cons, List.length_nil]; omega)
  obtain ⟨f3, f4, f1, f0⟩ := (hW1.st HC.out).cells
  have HW1 := Lib.hid hW1
  clear hB1 hf1 HB HW
  have hsz1 := hW1.kp.size
  have hr1 := hW1.room HC.out
  have HW2 := Lib.hid (writeString_any w0.heap.size g (Lib.byteCells (bs ++ [91])) (r.extract 0 n) w1 hW1.Bg (by rw [ByteArray.size_extract]; omega) hsz1)
  have hxz : (r.extract 0 n).size = n := by rw [ByteArray.size_extract]; omega
  have HXZ := Lib.hid hxz
  clear hW1 hxz
  go_wp2_with ((go_at_call 51; refine (HZC.out _).mono ?_; rintro e wz ⟨rfl, rfl⟩))
  refine HW2.out.mono ?_
  rintro e w2 ⟨rfl, hB2, hf2⟩
  have hW2 := HW1.out.write (out := (r.extract 0 n).data.toList) hB2 hf2
  obtain ⟨q3, q4, q1, q0⟩ := (hW2.st HC.out).cells
  have qfz := (cells_of hW2.L).2.2.1
  have HE : Hid (BS ls s w0 g (i + n) (bs ++ 91 :: (r.extract 0 n).data.toList) de ce dv cv (w2.setCell ⟨ls, 1, none⟩ (.int .i64 ((i : Int) + (n : Int))))) := Lib.hid (by
    have h := hW2.lex (w' := w2.setCell ⟨ls, 1, none⟩ (.int .i64 ((i + n : Nat) : Int))) (j := i + n) hW2.L.set (by omega) (by rw [List.length_append, List.length_append, Pat.size_toList, HXZ.out]; simp only [List.length_cons, List.length_nil]; omega) (Kp.setls _)
    rw [List.append_assoc] at h
    simpa using h)
  clear hW2 hB2 hf2 HW1 HW2 f3 f4 f1 f0
  go_wp2_with fail
  exact HK.out _ _ ⟨rfl, rfl, rfl, rfl, rfl, rfl, rfl, rfl, rfl, rfl, rfl, rfl⟩ HE.out

set_option maxRecDepth 1000000 in
set_option maxHeartbeats 8000000 in
theorem op2_c (F : Interp) (B b ls k3 k4 kl g : Nat) (s : ByteArray) (eof : Value) (lit : Nat) (acc : List UInt8) (m : Int) (fil : Bool) (w0 w : World) (c i : Nat) (bs : List UInt8) (sl de ce : Bool) (dv cv : Value) (r : ByteArray) (n : Nat) (ev : Value) (Q : Exit → Act → World → Prop)
    (hC : BC F B b ls k3 k4 kl s eof acc lit w0) (hB : BS ls s w0 g i bs de ce dv cv w) (hl8 : bs.length + 8 ≤ 8 * i) (hrs : i + r.size ≤ s.size) (hn0 : 0 < n) (hnr : n ≤ r.size) (hfl : fil = true) (hct : (idx (r.extract 0 n).data.toList [47]).isSome = true)
    (hK : ∀ a w', LF m k3 k4 kl g fil c true dv cv a → BS ls s w0 g (i + n) (bs ++ (91 :: (r.extract 0 n).data.toList)) de ce dv cv w' → Q .normal ⟨a, []⟩ w') (a : Array Value) (hF : LF m k3 k4 kl g fil c sl dv cv a) (h24 : a[24]? = some (.string r)) (h25 : a[25]? = some (.int .i64 (n : Int))) (h26 : a[26]? = some ev) :
    Code.wp Tryf.prog opW Q ⟨a, []⟩ w := by
  refine hF.open3 (C := fun a => Code.wp Tryf.prog opW Q ⟨a, []⟩ w) h24 h25 h26 fun x => ?_
  clear hF h24 h25 h26 a
  have HC := Lib.hid hC
  have HB := Lib.hid hB
  have HK := Lib.hid hK
  have hr := hB.room hC
  have hbl := hB.bl
  have hsz := hB.kp.size
  have hs42 := hC.st.base.hs
  have hi := hB.hi
  subst hfl
  have hn1 : (0 : Int) < (n : Int) := by omega
  have hn2 : (n : Int) ≤ (r.size : Int) := by omega
  have hn3 : (0 : Int) ≤ (n : Int) := by omega
  have HZC := Lib.hid (fun w' => contains_true (r.extract 0 n) w' (by rw [ByteArray.size_extract]; omega) hct)
  clear hct
  have HW := Lib.hid (writeByte_any w0.heap.size g (Lib.byteCells bs) 91 w hB.Bg (by omega) hsz)
  clear hC hB hK
  conv => arg 2; whnf
  go_wp2_with fail
  refine HW.out.mono ?_
  rintro e w1 ⟨rfl, hB1, hf1⟩
  have hW1 := (HB.out.write (out := [91]) hB1 hf1).toB (by rw [List.length_append]; simp only [List.length_cons, List.length_nil]; omega)
  obtain ⟨f3, f4, f1, f0⟩ := (hW1.st HC.out).cells
  have HW1 := Lib.hid hW1
  clear hB1 hf1 HB HW
  have hsz1 := hW1.kp.size
  have hr1 := hW1.room HC.out
  have HW2 := Lib.hid (writeString_any w0.heap.size g (Lib.byteCells (bs ++ [91])) (r.extract 0 n) w1 hW1.Bg (by rw [ByteArray.size_extract]; omega) hsz1)
  have hxz : (r.extract 0 n).size = n := by rw [ByteArray.size_extract]; omega
  have HXZ := Lib.hid hxz
  clear hW1 hxz
  go_wp2_with ((go_at_call 51; refine (HZC.out _).mono ?_; rintro e wz ⟨rfl, rfl⟩))
  refine HW2.out.mono ?_
  rintro e w2 ⟨rfl, hB2, hf2⟩
  have hW2 := HW1.out.write (out := (r.extract 0 n).data.toList) hB2 hf2
  obtain ⟨q3, q4, q1, q0⟩ := (hW2.st HC.out).cells
  have qfz := (cells_of hW2.L).2.2.1
  have HE : Hid (BS ls s w0 g (i + n) (bs ++ 91 :: (r.extract 0 n).data.toList) de ce dv cv (w2.setCell ⟨ls, 1, none⟩ (.int .i64 ((i : Int) + (n : Int))))) := Lib.hid (by
    have h := hW2.lex (w' := w2.setCell ⟨ls, 1, none⟩ (.int .i64 ((i + n : Nat) : Int))) (j := i + n) hW2.L.set (by omega) (by rw [List.length_append, List.length_append, Pat.size_toList, HXZ.out]; simp only [List.length_cons, List.length_nil]; omega) (Kp.setls _)
    rw [List.append_assoc] at h
    simpa using h)
  clear hW2 hB2 hf2 HW1 HW2 f3 f4 f1 f0
  go_wp2_with fail
  exact HK.out _ _ ⟨rfl, rfl, rfl, rfl, rfl, rfl, rfl, rfl, rfl, rfl, rfl, rfl⟩ HE.out

end Go.Proofs.YtonifkkdokaooaaFmt

/- Walk: the bracket's loop in regexpNext, a round by its case. Printed by gen_br.py. -/
namespace Go.Proofs.YtonifkkdokaooaaFmt
open Go.RowKit Go.Extern.Stop Go.Stop Go.Extern
set_option linter.unusedVariables false

set_option maxRecDepth 1000000 in
set_option maxHeartbeats 8000000 in
theorem op1_any (F : Interp) (B b ls k3 k4 kl g : Nat) (s : ByteArray) (eof : Value) (lit : Nat) (acc : List UInt8) (m : Int) (fil : Bool) (w0 w : World) (c i : Nat) (bs : List UInt8) (sl de ce : Bool) (dv cv : Value) (r : ByteArray) (n : Nat) (ev : Value) (er : Bool) (K K1 : Act → World → Prop) (Q Q1 : Exit → Act → World → Prop)
    (hC : BC F B b ls k3 k4 kl s eof acc lit w0) (hB : BS ls s w0 g i bs de ce dv cv w) (hK1 : ∀ a w, Code.wp Tryf.prog opEc (Exit.then K Q) a w → K1 a w) (hev0 : er = false → ev = .nilIface) (hev1 : er = true → ∃ k, ev = .iface 142 (.pointer (some ⟨k, 0, none⟩)) ∧ k < w.heap.size)
    (hK : ∀ a w' dv' cv', LF m k3 k4 kl g fil c sl dv' cv' a → a[24]? = some (.string r) → a[25]? = some (.int .i64 (n : Int)) → a[26]? = some ev → BS ls s w0 g i bs (de || er) (ce || er) dv' cv' w' → K ⟨a, []⟩ w') (a : Array Value) (hF : LF m k3 k4 kl g fil c sl dv cv a) (h24 : a[24]? = some (.string r)) (h25 : a[25]? = some (.int .i64 (n : Int))) (h26 : a[26]? = some ev) :
    Code.wp Tryf.prog opE1 (Exit.then K1 Q1) ⟨a, []⟩ w := by
  cases er with
  | false =>
    rw [Bool.or_false, Bool.or_false] at hK
    exact op1_no F B b ls k3 k4 kl g s eof lit acc m fil w0 w c i bs sl de ce dv cv r n ev K K1 Q Q1 hC hB hK1 (hev0 rfl) hK a hF h24 h25 h26
  | true =>
    rw [Bool.or_true, Bool.or_true] at hK
    have her := hev1 rfl
    cases hce : ce <;> cases hde : de
    · exact op1_n F B b ls k3 k4 kl g s eof lit acc m fil w0 w c i bs sl de ce dv cv r n ev K K1 Q Q1 hC hB hK1 her hce hde hK a hF h24 h25 h26
    · exact op1_d F B b ls k3 k4 kl g s eof lit acc m fil w0 w c i bs sl de ce dv cv r n ev K K1 Q Q1 hC hB hK1 her hce hde hK a hF h24 h25 h26
    · exact op1_c F B b ls k3 k4 kl g s eof lit acc m fil w0 w c i bs sl de ce dv cv r n ev K K1 Q Q1 hC hB hK1 her hce hde hK a hF h24 h25 h26
    · exact op1_cd F B b ls k3 k4 kl g s eof lit acc m fil w0 w c i bs sl de ce dv cv r n ev K K1 Q Q1 hC hB hK1 her hce hde hK a hF h24 h25 h26
theorem op2_any (F : Interp) (B b ls k3 k4 kl g : Nat) (s : ByteArray) (eof : Value) (lit : Nat) (acc : List UInt8) (m : Int) (fil : Bool) (w0 w : World) (c i : Nat) (bs : List UInt8) (sl de ce : Bool) (dv cv : Value) (r : ByteArray) (n : Nat) (ev : Value) (Q : Exit → Act → World → Prop)
    (hC : BC F B b ls k3 k4 kl s eof acc lit w0) (hB : BS ls s w0 g i bs de ce dv cv w) (hl8 : bs.length + 8 ≤ 8 * i) (hrs : i + r.size ≤ s.size) (hnr : n ≤ r.size)
    (hK : ∀ a w', LF m k3 k4 kl g fil c (sl || (fil && (idx (r.extract 0 n).data.toList [47]).isSome)) dv cv a → BS ls s w0 g (i + n) (bs ++ 91 :: (r.extract 0 n).data.toList) de ce dv cv w' → Q .normal ⟨a, []⟩ w') (a : Array Value) (hF : LF m k3 k4 kl g fil c sl dv cv a) (h24 : a[24]? = some (.string r)) (h25 : a[25]? = some (.int .i64 (n : Int))) (h26 : a[26]? = some ev) :
    Code.wp Tryf.prog opW Q ⟨a, []⟩ w := by
  by_cases hn : n = 0
  · subst hn
    have e : (r.extract 0 0).data.toList = [] := by rw [extract_list]; simp
    rw [e] at hK
    have e2 : (idx ([] : List UInt8) [47]).isSome = false := rfl
    rw [e2, Bool.and_false, Bool.or_false] at hK
    exact op2_0 F B b ls k3 k4 kl g s eof lit acc m fil w0 w c i bs sl de ce dv cv r 0 ev Q hC hB hl8 hrs rfl hK a hF h24 h25 h26
  · have hn0 : 0 < n := by omega
    cases hfl : fil with
    | false =>
      subst hfl
      rw [Bool.false_and, Bool.or_false] at hK
      exact op2_a F B b ls k3 k4 kl g s eof lit acc m false w0 w c i bs sl de ce dv cv r n ev Q hC hB hl8 hrs hn0 hnr rfl hK a hF h24 h25 h26
    | true =>
      subst hfl
      cases hct : (idx (r.extract 0 n).data.toList [47]).isSome with
      | false =>
        rw [hct, Bool.and_false, Bool.or_false] at hK
        exact op2_b F B b ls k3 k4 kl g s eof lit acc m true w0 w c i bs sl de ce dv cv r n ev Q hC hB hl8 hrs hn0 hnr rfl hct hK a hF h24 h25 h26
      | true =>
        rw [hct, Bool.and_true, Bool.or_true] at hK
        exact op2_c F B b ls k3 k4 kl g s eof lit acc m true w0 w c i bs sl de ce dv cv r n ev Q hC hB hl8 hrs hn0 hnr rfl hct hK a hF h24 h25 h26
end Go.Proofs.YtonifkkdokaooaaFmt

/- Walk: the bracket's loop in regexpNext, a round by its case. Printed by gen_br.py. -/
namespace Go.Proofs.YtonifkkdokaooaaFmt
open Go.RowKit Go.Extern.Stop Go.Stop Go.Extern
set_option linter.unusedVariables false

theorem cc_le (l : List UInt8) : (cc l).1 ≤ l.length := by
  unfold cc
  split
  · simp
  · rename_i c r
    split
    · split
      · simp
      · rename_i k hk
        have := idx_le _ _ _ hk
        simp only [List.length_cons, List.length_nil] at this ⊢
        omega
    · split
      · split
        · simp
        · rename_i k hk
          have := idx_le _ _ _ hk
          simp only [List.length_cons, List.length_nil] at this ⊢
          omega
      · simp
set_option maxRecDepth 1000000 in
set_option maxHeartbeats 8000000 in
theorem rd_open (F : Interp) (B b ls k3 k4 kl g : Nat) (s : ByteArray) (eof : Value) (lit : Nat) (acc : List UInt8) (m : Int) (fil : Bool) (w0 w : World) (c i : Nat) (bs : List UInt8) (sl de ce : Bool) (dv cv : Value) (K : Act → World → Prop) (Q : Exit → Act → World → Prop)
    (hC : BC F B b ls k3 k4 kl s eof acc lit w0) (hB : BS ls s w0 g i bs de ce dv cv w) (hc : c = 91) (hl8 : bs.length + 8 ≤ 8 * i) (r : ByteArray) (hr : s.extract i s.size = r) (n : Nat) (er : Bool) (hcc : cc r.data.toList = (n, er))
    (hK : ∀ a w' dv' cv', LF m k3 k4 kl g fil (nx s (i + n)).1 (sl || (fil && (idx (r.extract 0 n).data.toList [47]).isSome)) dv' cv' a → BS ls s w0 g (nx s (i + n)).2 (bs ++ 91 :: (r.extract 0 n).data.toList) (de || er) (ce || er) dv' cv' w' → K ⟨a, []⟩ w') (a : Array Value) (hF : LF m k3 k4 kl g fil c sl dv cv a) :
    Code.wp Tryf.prog brBody (Exit.then K Q) ⟨a, []⟩ w := by
  refine hF.open (C := fun a => Code.wp Tryf.prog brBody (Exit.then K Q) ⟨a, []⟩ w) fun x => ?_
  clear hF a
  subst hc
  have hst := hB.st hC
  have hs42 := hC.st.base.hs
  have hi := hB.hi
  have hrs : i + r.size ≤ s.size := by rw [← hr, ByteArray.size_extract]; omega
  have hnr : n ≤ r.size := by have := cc_le r.data.toList; rw [hcc, Pat.size_toList] at this; exact this
  have HR := Lib.hid (peekRest_any ls s i w hst.L hst.hi (by omega))
  rw [hr] at HR
  have HCC := Lib.hid (fun w' hF => charClass_any F r w' (by omega) hF)
  rw [hcc] at HCC
  obtain ⟨e3, e4, e1, e0⟩ := hst.cells
  have HC := Lib.hid hC
  have HB := Lib.hid hB
  have HK := Lib.hid hK
  clear hr hcc hC hB hK hst
  conv => arg 2; whnf
  go_upto_region 125 with (first | (go_at_call 49; refine (HR.out).mono ?_; rintro e w1 ⟨rfl, hb1⟩; have HB1 := Lib.hid (HB.out.below hb1); clear hb1 HB HR) | (go_at_call 50; refine (HCC.out _ (HB1.out.st HC.out).base.F).mono ?_; rintro e w2 ⟨ev, rfl, hv0, hv1, hb2⟩; have HB2 := Lib.hid (HB1.out.below hb2); have HV0 := Lib.hid hv0; have HV1 := Lib.hid hv1; clear hb2 HB1 hv0 hv1 HCC))
  rename_i Ka hKa Kb hKb Kc hKc
  refine op1_any F B b ls k3 k4 kl g s eof lit acc m fil w0 w2 91 i bs sl de ce dv cv r n ev er Kb Kc _ _ HC.out HB2.out hKc HV0.out HV1.out ?_ _ ⟨rfl, rfl, rfl, rfl, rfl, rfl, rfl, rfl, rfl, rfl, rfl, rfl⟩ rfl rfl rfl
  intro a w' dv' cv' hF h24 h25 h26 hB
  refine hKb _ _ ?_
  refine op2_any F B b ls k3 k4 kl g s eof lit acc m fil w0 w' 91 i bs sl (de || er) (ce || er) dv' cv' r n ev _ HC.out hB hl8 hrs hnr ?_ a hF h24 h25 h26
  intro a2 w3 hF2 hB2
  refine hKa _ _ ?_
  refine rd_next F B b ls k3 k4 kl g s eof lit acc m fil w0 w3 91 (i + n) _ _ _ _ dv' cv' _ HC.out hB2 ?_ a2 hF2
  intro a3 w4 hF3 hB3
  exact HK.out _ _ _ _ hF3 hB3

end Go.Proofs.YtonifkkdokaooaaFmt

/- The bracket's loop in regexpNext: all rounds. -/
namespace Go.Proofs.YtonifkkdokaooaaFmt
open Go.RowKit Go.Extern.Stop Go.Stop Go.Extern
set_option linter.unusedVariables false

theorem ext2 (s : ByteArray) (i n : Nat) (h : i + n ≤ s.size) : (s.extract i s.size).extract 0 n = s.extract i (i + n) := by
  apply ByteArray.ext
  apply Array.ext'
  rw [extract_list, extract_list, extract_list]
  simp only [List.drop_zero, Nat.sub_zero]
  rw [List.take_take]
  congr 1
  omega
theorem brL_step (fil : Bool) (s : ByteArray) (lit f : Nat) (t : Br) : brL fil s lit (f + 1) t = 
    if t.c = 0 then (if t.ce then ⟨3, 0, t.i, []⟩ else litB lit)
    else if t.c = 92 then
      (if (nx s t.i).1 = 0 then brL fil s lit f { t with c := 0, i := (nx s t.i).2 } else brL fil s lit f (adv s (brEsc fil t (nx s t.i).1 (nx s t.i).2)))
    else if t.c = 45 then brL fil s lit f (adv s (brDash s t))
    else if t.c = 93 then (if t.sl then ⟨0, 0, t.i, rq (s.extract (lit - 1) t.i).data.toList⟩ else if t.de then ⟨3, 0, t.i, []⟩ else ⟨0, 0, t.i, t.bs ++ [93]⟩)
    else if t.c = 91 then brL fil s lit f (adv s (brOpen fil s t))
    else brL fil s lit f (adv s (brDef fil t)) := rfl

set_option maxHeartbeats 1000000 in
theorem br_rounds (F : Interp) (B b ls k3 k4 kl g : Nat) (s : ByteArray) (eof : Value) (lit : Nat) (acc : List UInt8) (m : Int) (fil : Bool) (w0 wS : World) (Post : Ending → World → Prop) (Q : Exit → Act → World → Prop)
    (hC : BC F B b ls k3 k4 kl s eof acc lit w0) (hks : Kp (XX ls B b wS) wS w0) (hQ : RetQ Q Post) :
    ∀ (f c i : Nat) (bs : List UInt8) (sl de ce : Bool) (dv cv : Value) (w : World) (a : Array Value), LF m k3 k4 kl g fil c sl dv cv a → BS ls s w0 g i bs de ce dv cv w → c ≤ 1114111 → (c ≠ 0 → bs.length + 8 ≤ 8 * i) → lit ≤ i →
      need s ⟨c, i, bs, sl, de, ce⟩ < f → RPost B b ls s eof acc wS (brL fil s lit f ⟨c, i, bs, sl, de, ce⟩) Post → Code.rounds Tryf.prog brBody Q f ⟨a, []⟩ w := by
  intro f
  induction f with
  | zero => intro c i bs sl de ce dv cv w a hF hB hc hl hli hn; omega
  | succ f ih =>
    intro c i bs sl de ce dv cv w a hF hB hc hl hli hn hP
    rw [rounds_succ]
    rw [brL_step] at hP
    dsimp only at hP
    obtain ⟨hj0, hj1, hj2⟩ := nx_le s i hB.hi
    have hcs := nx_cases s i hB.hi
    by_cases h0 : c = 0
    · rw [if_pos h0] at hP
      cases hce : ce with
      | true =>
        rw [hce, if_pos rfl] at hP
        exact rd_end1 F B b ls k3 k4 kl g s eof lit acc m fil w0 w c i bs sl de ce dv cv wS Post _ Q hC hB hks hQ h0 hce hP a hF
      | false =>
        rw [hce] at hP
        exact rd_end0 F B b ls k3 k4 kl g s eof lit acc m fil w0 w c i bs sl de ce dv cv wS Post _ Q hC hB hks hQ h0 hce hP a hF
    rw [if_neg h0] at hP
    have hl8 := hl h0
    have hnd : 2 * (s.size - i) + 1 < f + 1 := by have := hn; simp only [need, if_neg h0] at this; exact this
    have need_lt : ∀ c' i' bs' sl' de' ce', i ≤ i' → (c' ≠ 0 → i < i' ∧ i < s.size) → need s ⟨c', i', bs', sl', de', ce'⟩ < f := by
      intro c' i' bs' sl' de' ce' h1 h2
      unfold need
      by_cases hz : c' = 0
      · simp only [hz, if_true]; omega
      · simp only [hz, if_false]; have := h2 hz; omega
    have nxz : ∀ j, j ≤ s.size → (nx s j).1 ≠ 0 → j < (nx s j).2 ∧ j < s.size := fun j _ h => nx_adv s j h
    by_cases h92 : c = 92
    · rw [if_pos h92] at hP
      by_cases hz : (nx s i).1 = 0
      · rw [if_pos hz] at hP
        refine rd_esc0 F B b ls k3 k4 kl g s eof lit acc m fil w0 w c i bs sl de ce dv cv _ Q hC hB h92 (nx s i).2 (by rw [← hz]) hj0 ?_ a hF
        intro a' w' dv' cv' hF' hB'
        exact ih 0 _ bs sl de ce dv' cv' w' a' hF' hB' (by omega) (fun h => absurd rfl h) (by omega) (need_lt _ _ _ _ _ _ hj0 (fun h => absurd rfl h)) hP
      · rw [if_neg hz] at hP
        obtain ⟨hlt, hlt2⟩ := nxz i hB.hi hz
        generalize hnx : nx s i = n at *
        obtain ⟨c1, i1⟩ := n
        dsimp only at *
        obtain ⟨ha0, ha1, ha2⟩ := nx_le s i1 hj1
        have nl : ∀ bs' sl' de' ce', need s ⟨(nx s i1).1, (nx s i1).2, bs', sl', de', ce'⟩ < f := fun bs' sl' de' ce' => need_lt _ _ _ _ _ _ (by omega) (fun h => by have := nxz i1 hj1 h; omega)
        have fin : ∀ out sl', out.length ≤ 8 → brEsc fil ⟨c, i, bs, sl, de, ce⟩ c1 i1 = ⟨c, i1, bs ++ out, sl', de, ce⟩ → ∀ a' w' dv' cv', LF m k3 k4 kl g fil (nx s i1).1 sl' dv' cv' a' → BS ls s w0 g (nx s i1).2 (bs ++ out) de ce dv' cv' w' → Code.rounds Tryf.prog brBody Q f ⟨a', []⟩ w' := by
          intro out sl' hout he a' w' dv' cv' hF' hB'
          rw [he] at hP
          refine ih _ _ _ _ de ce dv' cv' w' a' hF' hB' ha2 (fun h => ?_) (by omega) (nl _ _ _ _) hP
          have := nxz i1 hj1 h
          rw [List.length_append]
          omega
        by_cases h45 : c1 = 45
        · refine rd_esc45 F B b ls k3 k4 kl g s eof lit acc m fil w0 w c i bs sl de ce dv cv _ Q hC hB h92 c1 i1 hnx hl8 hlt h45 ?_ a hF
          exact fin _ _ (by simp) (by simp [brEsc, h45])
        by_cases h128 : 128 < c1
        · refine rd_escG F B b ls k3 k4 kl g s eof lit acc m fil w0 w c i bs sl de ce dv cv _ Q hC hB h92 c1 i1 hnx hl8 hlt h128 ?_ a hF
          exact fin _ _ (by have := en_len c1; omega) (by simp [brEsc, h45, h128])
        · cases hfl : fil with
          | false =>
            subst hfl
            refine rd_escD0 F B b ls k3 k4 kl g s eof lit acc m false w0 w c i bs sl de ce dv cv _ Q hC hB h92 c1 i1 hnx hl8 hlt hz h45 h128 rfl ?_ a hF
            exact fin _ _ (rq_en_len c1) (by simp [brEsc, h45, h128])
          | true =>
            subst hfl
            by_cases h47 : c1 = 47
            · refine rd_escD2 F B b ls k3 k4 kl g s eof lit acc m true w0 w c i bs sl de ce dv cv _ Q hC hB h92 c1 i1 hnx hl8 hlt hz h45 h128 rfl h47 ?_ a hF
              exact fin _ _ (rq_en_len c1) (by simp [brEsc, h47])
            · refine rd_escD1 F B b ls k3 k4 kl g s eof lit acc m true w0 w c i bs sl de ce dv cv _ Q hC hB h92 c1 i1 hnx hl8 hlt hz h45 h128 rfl h47 ?_ a hF
              exact fin _ _ (rq_en_len c1) (by simp [brEsc, h45, h128, h47])
    rw [if_neg h92] at hP
    by_cases h45 : c = 45
    · rw [if_pos h45] at hP
      have fin : ∀ de', brDash s ⟨c, i, bs, sl, de, ce⟩ = ⟨c, i, bs ++ [45], sl, de', ce⟩ → ∀ a' w' dv' cv', LF m k3 k4 kl g fil (nx s i).1 sl dv' cv' a' → BS ls s w0 g (nx s i).2 (bs ++ [45]) de' ce dv' cv' w' → Code.rounds Tryf.prog brBody Q f ⟨a', []⟩ w' := by
        intro de' he a' w' dv' cv' hF' hB'
        rw [he] at hP
        refine ih _ _ _ sl de' ce dv' cv' w' a' hF' hB' hj2 (fun h => ?_) (by omega) (need_lt _ _ _ _ _ _ hj0 (nxz i hB.hi)) hP
        have := nxz i hB.hi h
        rw [List.length_append]
        simp only [List.length_cons, List.length_nil]
        omega
      by_cases h93 : (nx s i).1 = 93
      · exact rd_dash93 F B b ls k3 k4 kl g s eof lit acc m fil w0 w c i bs sl de ce dv cv _ Q hC hB h45 hl8 h93 (fin _ (by simp [brDash, h93])) a hF
      · by_cases hlt : (nx s i).1 < lastR s i
        · cases hde : de with
          | true =>
            subst hde
            exact rd_dashDe F B b ls k3 k4 kl g s eof lit acc m fil w0 w c i bs sl true ce dv cv _ Q hC hB h45 hl8 h93 hlt rfl (fin _ (by simp [brDash])) a hF
          | false =>
            subst hde
            exact rd_dashNew F B b ls k3 k4 kl g s eof lit acc m fil w0 w c i bs sl false ce dv cv _ Q hC hB h45 hl8 h93 hlt rfl (fin _ (by simp [brDash, h93, hlt])) a hF
        · exact rd_dashOk F B b ls k3 k4 kl g s eof lit acc m fil w0 w c i bs sl de ce dv cv _ Q hC hB h45 hl8 h93 hlt (fin _ (by simp [brDash, hlt])) a hF
    rw [if_neg h45] at hP
    by_cases h93 : c = 93
    · rw [if_pos h93] at hP
      cases hsl : sl with
      | true =>
        rw [hsl, if_pos rfl] at hP
        exact rd_cl1 F B b ls k3 k4 kl g s eof lit acc m fil w0 w c i bs sl de ce dv cv wS Post _ Q hC hB hks hQ h93 hsl hli hP a hF
      | false =>
        rw [hsl, if_neg (by simp)] at hP
        cases hde : de with
        | true =>
          rw [hde, if_pos rfl] at hP
          exact rd_cl2 F B b ls k3 k4 kl g s eof lit acc m fil w0 w c i bs sl de ce dv cv wS Post _ Q hC hB hks hQ h93 hsl hde hP a hF
        | false =>
          rw [hde, if_neg (by simp)] at hP
          exact rd_cl3 F B b ls k3 k4 kl g s eof lit acc m fil w0 w c i bs sl de ce dv cv wS Post _ Q hC hB hks hQ h93 hsl hde hl8 hP a hF
    rw [if_neg h93] at hP
    by_cases h91 : c = 91
    · rw [if_pos h91] at hP
      obtain ⟨n, er, hcc⟩ : ∃ n er, cc (s.extract i s.size).data.toList = (n, er) := ⟨_, _, rfl⟩
      have hnr : n ≤ s.size - i := by have := cc_le (s.extract i s.size).data.toList; rw [hcc, Pat.size_toList, ByteArray.size_extract] at this; simp only at this; omega
      have hx := ext2 s i n (by have := hB.hi; omega)
      have hxl : (s.extract i (i + n)).data.toList.length = n := by rw [Pat.size_toList, ByteArray.size_extract]; have := hB.hi; omega
      obtain ⟨ha0, ha1, ha2⟩ := nx_le s (i + n) (by have := hB.hi; omega)
      refine rd_open F B b ls k3 k4 kl g s eof lit acc m fil w0 w c i bs sl de ce dv cv _ Q hC hB h91 hl8 _ rfl n er hcc ?_ a hF
      intro a' w' dv' cv' hF' hB'
      rw [hx] at hF' hB'
      have he : brOpen fil s ⟨c, i, bs, sl, de, ce⟩ = ⟨c, i + n, bs ++ 91 :: (s.extract i (i + n)).data.toList, sl || (fil && (idx (s.extract i (i + n)).data.toList [47]).isSome), de || er, ce || er⟩ := by
        simp only [brOpen, hcc]
      rw [he] at hP
      refine ih _ _ _ _ _ _ dv' cv' w' a' hF' hB' ha2 (fun h => ?_) (by omega) (need_lt _ _ _ _ _ _ (by omega) (fun h => ?_)) hP
      · have := nxz (i + n) (by have := hB.hi; omega) h
        rw [List.length_append, List.length_cons, hxl]
        omega
      · have := nxz (i + n) (by have := hB.hi; omega) h
        omega
    · rw [if_neg h91] at hP
      have hen := en_len c
      have fin : ∀ sl', brDef fil ⟨c, i, bs, sl, de, ce⟩ = ⟨c, i, bs ++ en c, sl', de, ce⟩ → ∀ a' w' dv' cv', LF m k3 k4 kl g fil (nx s i).1 sl' dv' cv' a' → BS ls s w0 g (nx s i).2 (bs ++ en c) de ce dv' cv' w' → Code.rounds Tryf.prog brBody Q f ⟨a', []⟩ w' := by
        intro sl' he a' w' dv' cv' hF' hB'
        rw [he] at hP
        refine ih _ _ _ sl' de ce dv' cv' w' a' hF' hB' hj2 (fun h => ?_) (by omega) (need_lt _ _ _ _ _ _ hj0 (nxz i hB.hi)) hP
        have := nxz i hB.hi h
        rw [List.length_append]
        omega
      cases hfl : fil with
      | false =>
        subst hfl
        exact rd_def0 F B b ls k3 k4 kl g s eof lit acc m false w0 w c i bs sl de ce dv cv _ Q hC hB hc h0 h92 h45 h93 h91 (by omega) rfl (fin _ (by simp [brDef])) a hF
      | true =>
        subst hfl
        by_cases h47 : c = 47
        · exact rd_def2 F B b ls k3 k4 kl g s eof lit acc m true w0 w c i bs sl de ce dv cv _ Q hC hB hc h0 h92 h45 h93 h91 (by omega) rfl h47 (fin _ (by simp [brDef, h47])) a hF
        · exact rd_def1 F B b ls k3 k4 kl g s eof lit acc m true w0 w c i bs sl de ce dv cv _ Q hC hB hc h0 h92 h45 h93 h91 (by omega) rfl h47 (fin _ (by simp [brDef, h47])) a hF
end Go.Proofs.YtonifkkdokaooaaFmt
