/- Joined by pack.py: RdN. -/
import Derived.Test.YtpfgmiocdgfniaaGreatFmtP26
import Derived.Deep.RegionLaw
set_option linter.unusedVariables false
set_option maxHeartbeats 8000000
set_option maxRecDepth 1000000
namespace Go.Proofs.YtpfgmiocdgfniaaGreatFmt
open Go.RowKit
open Re (Fo)
theorem exec_func {P : Program} {o : Oper} {a : Act} {w : World} (f : FuncId) (xs : Array Operand) (ts : Array TypeId) (ho : o.op = .call { callee := .value (.func f), args := xs, argTypes := ts }) (he : Enters P f) (args : Array Value) (hx : xs.map a.eval = args) :
    (execOp a.eval o).run P w = .ok (.enter f args) w := by
  unfold execOp
  simp only [ho, resolve, invoke, Sem.run_bind, hx]
  have e : a.eval (.func f) = .func (.func f) #[] #[] := rfl
  rw [e]
  simp only [Deferred.ofValue, Sem.run_pure, Result.andThen_ok]
  rw [Array.append_empty, Array.empty_append]
  exact he args w
theorem step_call {P : Program} {ops : Array Oper} {o : Oper} {a : Act} {w : World} {K : Act → World → Prop} {Q : Exit → Act → World → Prop} {E : Prop} (hg : o.guard = none) (f : FuncId) (x0 x1 : Operand) (ts : Array TypeId) (ho : o.op = .call { callee := .value (.func f), args := #[x0, x1], argTypes := ts }) (he : Enters P f) (v0 v1 : Value) (h0 : a.eval x0 = v0) (h1 : a.eval x1 = v1) (Post : Ending → World → Prop) (hc : Calls P f #[v0, v1] w Post) (hp : ∀ e w', Post e w' → ∃ v, e = .returned v ∧ K (a.put o.dst v) w') :
    if Region.wanted o (yielded ops a.tmps) = true then Oper.wp P o a w K Q else E := by
  have hw : Region.wanted o (yielded ops a.tmps) = true := by simp [Region.wanted, hg]
  rw [if_pos hw]
  unfold Oper.wp
  rw [exec_func f #[x0, x1] ts ho he #[v0, v1] (by simp [h0, h1]), Oper.upon_enter]
  refine hc.mono fun e w'' hh => ?_
  obtain ⟨v, rfl, hk⟩ := hp e w'' hh
  exact hk
attribute [local go_sem ↓] wp_bsZ
theorem al6_walk (rb fb z ob g1 o B : Nat) (la : Option Addr) (n lcap : Nat) (ks : List Value) (r1 : Array Value) (w : World) (Q : Exit → Act → World → Prop) (a : Array Value) (hF : AF rb fb z ob a) (h6 : a[6]? = some (.pointer (some ⟨g1, o, none⟩)))
    (hg1 : w.heap[g1]? = some (.cells r1 tRe (0, 0))) (hr1 : r1[o + 129]? = some (.slice la n lcap)) (hx1 : ¬ XR rb fb g1) (hla : ∀ p, la = some p → ¬ XR rb fb p.block ∧ p.block ≠ g1)
    (hrb : rb < w.heap.size) (hfb : fb < w.heap.size) (hB : B ≤ w.heap.size) (hown : w.ownsRow B tRe 132 (.slice la n lcap) n ks) (hn : n ≤ 549755813888) (At1 At2 : Array Value → World → Prop)
    (hA : ∀ V, Kp (fun _ => False) w V → Calls Tryz.prog 34 #[.pointer (some ⟨rb, 0, none⟩), .pointer (some ⟨fb, 0, none⟩)] V fun e V' => ∃ c, e = .returned (.agg c) ∧ At1 c V' ∧ Kp (XR rb fb) V V')
    (hT : ∀ c V, At1 c V → Calls Tryz.prog 33 #[.pointer (some ⟨rb, 0, none⟩), .agg c] V fun e V' => ∃ c', e = .returned (.agg c') ∧ At2 c' V' ∧ c'.size = 132 ∧ oneC c'.toList ∧ Kp (XR rb fb) V V')
    (k1 : ∀ c V V', At1 c V → Kp (fun _ => False) V V' → At1 c V') (k2 : ∀ c V V', At2 c V → Kp (fun _ => False) V V' → At2 c V')
    (hQ : ∀ c' W w4 g cap a', AF rb fb z ob a' → Kp (XR rb fb) w W → At2 c' W → A4 W w4 B g1 o g n cap la ks c' r1 → Q .normal ⟨a', []⟩ w4) : Code.wp Tryz.prog al6 Q ⟨a, []⟩ w := by
  refine AF.open (C := fun a => Code.wp Tryz.prog al6 Q ⟨a, []⟩ w) hF h6 fun x => ?_
  obtain ⟨ie, hi, hz0, hz1, hz2⟩ := info_parts infoReB
  have hl : w.cell? ⟨g1, o + 129, none⟩ = some (.slice la n lcap) := by rw [Lib.cell_of_heap hg1]; exact hr1
  have E36 : Hid (Enters Tryz.prog 34) := Lib.hid (enters_of Tryz.func34 (by kernel_rfl) rfl)
  have E35 : Hid (Enters Tryz.prog 33) := Lib.hid (enters_of Tryz.func33 (by kernel_rfl) rfl)
  have HA := Lib.hid hA
  have HQ := Lib.hid hQ
  have HT := Lib.hid hT
  have K1 := Lib.hid k1
  have K2 := Lib.hid k2
  have HL := Lib.hid hl
  have HG1 := Lib.hid hg1
  have HLA := Lib.hid hla
  have HO := Lib.hid hown
  have HX1 := Lib.hid hx1
  have HR1 := Lib.hid hr1
  clear hQ hA hT k1 k2 hF h6 hg1 hr1 hla hown hx1
  simp only [al6, alI, alL, alB, Tryz.f18, Option.getD_some, lq1, lq2, lbl, llo]
  rw [zlit]
  have gl0 : g1 < w.heap.size := World.block_lt_of_cell? _ _ hl
  have ni0 : (0 : Int) ≤ (n : Int) := by omega
  have ni1 : (n : Int) < (n : Int) + 1 := by omega
  refine wp_region_noPanic ?_
  go_region_law (first
    | (refine step_call rfl 34 (.tmp 44) (.tmp 3) _ rfl E36.out (.pointer (some ⟨rb, 0, none⟩)) (.pointer (some ⟨fb, 0, none⟩)) (by rfl) (by rfl) _ (HA.out _ (by first | exact (Kp.refl _ _).drew | exact ((Kp.refl _ _).drew).alloc _)) ?_; rintro e w1 ⟨c, rfl, h1, x1⟩; refine ⟨_, rfl, ?_⟩; have kw1 : Kp (XR rb fb) w w1 := (by first | exact ((Kp.refl _ _).drew).trans x1 | exact (((Kp.refl _ _).drew).alloc _).trans x1); have c1 := kw1.cell HX1.out HL.out; have gl1 : g1 < w1.heap.size := World.block_lt_of_cell? _ _ c1; have KW1 := Lib.hid kw1; have X1 := Lib.hid x1; have H1 := Lib.hid h1; clear h1 x1 kw1)
    | (refine step_call rfl 33 (.tmp 43) (.tmp 45) _ rfl E35.out (.pointer (some ⟨rb, 0, none⟩)) (.agg c) (by rfl) (by rfl) _ (HT.out _ _ (by first | exact H1.out | exact K1.out _ _ _ H1.out ((Kp.refl _ _).alloc _))) ?_; rintro e w2 ⟨c', rfl, h2, hcs, hc1, x2⟩; refine ⟨_, rfl, ?_⟩; have kw2 : Kp (XR rb fb) w w2 := (by first | exact KW1.out.trans x2 | exact (KW1.out.alloc _).trans x2); have c2 := kw2.cell HX1.out HL.out; have gl2 : g1 < w2.heap.size := World.block_lt_of_cell? _ _ c2; have KW2 := Lib.hid kw2; have X2 := Lib.hid x2; have H2 := Lib.hid h2; have HCS := Lib.hid hcs; have HC1 := Lib.hid hc1; clear h2 x2 kw2 hcs hc1)
    | (refine step_append_lies _ (by rfl) _ _ _ (by rfl) B tRe ie (.agg reZ) 132 176 Tryz.underlying29 hi hz0 hz1 hz2 rfl (by decide) (.slice la n lcap) n ks (by rfl) (by first | exact ownK HO.out KW2.out (fun p hp => (HLA.out p hp).1) | exact (ownK HO.out KW2.out (fun p hp => (HLA.out p hp).1)).alloc _) _ 1 1 reZ.toList (by rfl) rfl (by first | exact World.news_of_block (heap_alloc_new _ _) | exact World.news_of_block (X2.out.heap (fun hx => by rcases hx with e | e <;> (have := KW1.out.size; (try simp at e); omega)) (heap_alloc_new _ _)) | exact World.news_of_block (X2.out.heap (fun hx => by rcases hx with e | e <;> ((try simp at e); omega)) (X1.out.heap (fun hx => by rcases hx with e | e <;> ((try simp at e); omega)) (heap_alloc_new _ _)))) oneC_Z (by decide) (by unfold maxLen; omega) (by omega) (by have := KW2.out.size; first | omega | (simp; omega)) _ rfl ?_
       intro g cap w3 hown3 hgrow3 hat3 hlt3
       obtain ⟨cur, W, kW, hap, h2W, hWb⟩ : ∃ cur W, Kp (XR rb fb) w W ∧ AP w W w3 B rb fb g1 o g n la ks c' cur cap ∧ At2 c' W ∧ w.heap.size < W.heap.size := (by
         first
         | exact (ap_of HG1.out KW2.out HLA.out hown3 HO.out.1 HCS.out hgrow3 hat3).elim fun cur h => ⟨cur, _, KW2.out, h, H2.out, by have := X2.out.size; first | (have h9 := X1.out.size; have h8 := X2.out.size; simp at h9; omega) | (have h9 := KW1.out.size; have h8 := X2.out.size; simp at h8; omega)⟩
         | exact (ap_of HG1.out (KW2.out.alloc _) HLA.out hown3 HO.out.1 HCS.out hgrow3 hat3).elim fun cur h => ⟨cur, _, KW2.out.alloc _, h, K2.out _ _ _ H2.out ((Kp.refl _ _).alloc _), by have := KW2.out.size; simp; omega⟩)
       obtain ⟨ge1, gc1, gf1, gc2, gf2, gs1, gs2⟩ := hap.facts HG1.out HR1.out HX1.out kW HLA.out HCS.out HC1.out
       have hbig : w.heap.size < w3.heap.size := hap.big hWb
       have hcs9 := HCS.out
       have HAP := Lib.hid hap
       have HKW := Lib.hid kW
       have H2W := Lib.hid h2W
       have GE := Lib.hid ge1
       clear hap kW h2W ge1 hown3 hgrow3 hat3 hlt3))
  all_goals exact HQ.out _ _ _ _ _ _ ⟨rfl, rfl, rfl, rfl, rfl⟩ HKW.out H2W.out (by first | exact HAP.out.end1 GE.out | exact HAP.out.end2 GE.out)
end Go.Proofs.YtpfgmiocdgfniaaGreatFmt
