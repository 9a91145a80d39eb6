/- Joined by pack.py: BrFx. -/
import Derived.Test.YtonifkkdokaooaaFmtP26
/- Walk: the bracket's loop in regexpNext, a round by its case. Printed by gen_br.py. -/
namespace Go.Proofs.YtonifkkdokaooaaFmt
open Go.RowKit Go.Extern.Stop Go.Stop Go.Extern
set_option linter.unusedVariables false

def shapeR : List UInt8 := [4, 5, 0, 0, 0, 0, 0, 0, 0, 105, 110, 116, 51, 50]
@[go_sem] theorem opR (name : String) (n : Int) (w : World) : (FmtStop.operand name false 99 false (.iface 21 (.int .i32 n))).run Tryf.prog w = .ok (shapeR, digits 8 (n % 2 ^ 64).toNat) w := by kernel_rfl
theorem alloc2_at (w : World) (A B : Obj) : (((w.alloc A).alloc B).drew).heap[w.heap.size + 1]? = some B := by
  show ((w.heap.push A).push B)[w.heap.size + 1]? = some B
  have e : w.heap.size + 1 = (w.heap.push A).size := by simp
  rw [e]
  exact Array.getElem?_push_size
set_option maxRecDepth 1000000 in
set_option maxHeartbeats 8000000 in
theorem rd_dashNew (F : Interp) (B b ls k3 k4 kl g : Nat) (s : ByteArray) (eof : Value) (lit : Nat) (acc : List UInt8) (m : Int) (fil : Bool) (w0 w : World) (c i : Nat) (bs : List UInt8) (sl de ce : Bool) (dv cv : Value) (K : Act → World → Prop) (Q : Exit → Act → World → Prop)
    (hC : BC F B b ls k3 k4 kl s eof acc lit w0) (hB : BS ls s w0 g i bs de ce dv cv w) (hc : c = 45) (hl8 : bs.length + 8 ≤ 8 * i) (h93 : (nx s i).1 ≠ 93) (hlt : (nx s i).1 < lastR s i) (hde : de = false)
    (hK : ∀ a w' dv' cv', LF m k3 k4 kl g fil (nx s i).1 sl dv' cv' a → BS ls s w0 g (nx s i).2 (bs ++ [45]) true ce dv' cv' w' → K ⟨a, []⟩ w') (a : Array Value) (hF : LF m k3 k4 kl g fil c sl dv cv a) :
    Code.wp Tryf.prog brBody (Exit.then K Q) ⟨a, []⟩ w := by
  refine hF.open (C := fun a => Code.wp Tryf.prog brBody (Exit.then K Q) ⟨a, []⟩ w) fun x => ?_
  clear hF a
  have HC := Lib.hid hC
  have HB := Lib.hid hB
  have HK := Lib.hid hK
  obtain ⟨hj0, hj1, hj2⟩ := nx_le s i hB.hi
  have hr := hB.room hC
  have hbl := hB.bl
  have hsz := hB.kp.size
  have hs42 := hC.st.base.hs
  subst hc
  obtain ⟨e3, e4, e1, e0⟩ := (hB.st hC).cells
  subst hde
  obtain rfl := hB.D.2 rfl
  have h93b : (((nx s i).1 : Int) != 93) = true := by rw [bne_iff_ne]; omega
  have hltb : ((nx s i).1 : Int) < (lastR s i : Int) := by omega
  clear h93 hlt
  have HW := Lib.hid (writeByte_any w0.heap.size g (Lib.byteCells bs) 45 w hB.Bg (by omega) hsz)
  clear hC hB hK
  conv => arg 2; whnf
  go_wp2_with fail
  refine HW.out.mono ?_
  rintro e w1 ⟨rfl, hB1, hf1⟩
  have hW1 := HB.out.write (out := [45]) hB1 hf1
  obtain ⟨f3, f4, f1, f0⟩ := (hW1.st HC.out).cells
  have HLA := Lib.hid (last_any ls s i w1 hW1.L hW1.hi (by omega) (hW1.st HC.out).base.T)
  have HW1 := Lib.hid (hW1.toB (by rw [List.length_append]; simp only [List.length_cons, List.length_nil]; omega))
  clear hB1 hf1 HB HW e3 e4 e1 e0 hW1
  go_wp2_with fail
  refine HLA.out.mono ?_
  rintro e w2 ⟨rfl, hb2⟩
  have hB2 := HW1.out.below hb2
  obtain ⟨h3, h4, h1, h0⟩ := (hB2.st HC.out).cells
  have HPK := Lib.hid (peekNext_any ls s i w2 hB2.L hB2.hi (by omega) (hB2.st HC.out).base.T)
  have HB2 := Lib.hid hB2
  clear hB2 hb2 HW1 HLA f3 f4 f1 f0
  go_wp2_with fail
  refine HPK.out.mono ?_
  rintro e w3 ⟨rfl, hb3⟩
  have hB3 := HB2.out.below hb3
  obtain ⟨q3, q4, q1, q0⟩ := (hB3.st HC.out).cells
  have HF3 := Lib.hid (hB3.st HC.out).base.F
  have HB3 := Lib.hid hB3
  clear hB3 hb3 HB2 HPK h3 h4 h1 h0
  clear HF3
  go_upto_region 136 with fail
  have hbw : ∀ (A B : Obj), Below w3.heap.size w3 (((w3.alloc A).alloc B).drew) := fun A B => (((Below.refl _ _).alloc (Nat.le_refl _) A).alloc (by simp) B).drew
  refine rd_next F B b ls k3 k4 kl g s eof lit acc m fil w0 _ 45 i (bs ++ [45]) sl true ce _ cv _ HC.out ((HB3.out.below (hbw _ _)).setDe (ErrV.yes ⟨_, _, .nilIface, rfl, alloc2_at _ _ _, .inl rfl⟩)) ?_ _ ⟨rfl, rfl, rfl, rfl, rfl, rfl, rfl, rfl, rfl, rfl, rfl, rfl⟩
  intro a w' hF hB
  exact HK.out _ _ _ _ hF hB

end Go.Proofs.YtonifkkdokaooaaFmt
