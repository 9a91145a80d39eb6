/- Joined by pack.py: RdJ. -/
import Derived.Test.YtonifkkdokaooaaFmtP06
import Derived.Test.YtonifkkdokaooaaFmtP05
/- Walk: alt: the statement that lays one thing more behind the last list's kids. -/
namespace Go.Proofs.YtonifkkdokaooaaFmt
open Go.RowKit
open Re (Fo)
set_option linter.unusedVariables false

def lq1 : Code → Code | .seq a _ => a | c => c
def lq2 : Code → Code | .seq _ b => b | c => c
def lbl : Code → Code | .block _ c => c | c => c
def llo : Code → Code | .loop c => c | c => c
def lth : Code → Code | .cond _ a _ => a | c => c
noncomputable def alB : Code := Tryf.f24.body.getD .skip
noncomputable def alL : Code := llo (lbl (lq1 (lq2 (lq2 alB))))
noncomputable def alI : Code := lbl (lq2 alL)
noncomputable def al2 : Code := lq1 alL
noncomputable def al34 : Code := lq1 alI
noncomputable def al5 : Code := lq1 (lq2 alI)
noncomputable def al6 : Code := lq2 (lq2 alI)
/-- the frame in alt -/
structure AF (rb fb z ob : Nat) (a : Array Value) : Prop where
  sz : a.size = 54
  s0 : a[0]? = some (.pointer (some ⟨rb, 0, none⟩))
  s3 : a[3]? = some (.pointer (some ⟨fb, 0, none⟩))
  s4 : a[4]? = some (.pointer (some ⟨z, 0, none⟩))
  s5 : a[5]? = some (.pointer (some ⟨ob, 0, none⟩))
def rlst : Nat → (Nat → Value) → Nat → List Value
  | 0, _, _ => []
  | n + 1, x, k => x k :: rlst n x (k + 1)
theorem rlst_eq (l : List Value) (d : Value) : ∀ (n k : Nat), l.length = k + n → l.drop k = rlst n (fun i => l.getD i d) k
  | 0, k, h => by simp [rlst, h]
  | n + 1, k, h => by
    have hk : k < l.length := by omega
    rw [List.drop_eq_getElem_cons hk, rlst, rlst_eq l d n (k + 1) (by omega)]
    simp [List.getD, hk]
theorem arr_rlst (a : Array Value) (n : Nat) (h : a.size = n) : ∃ x : Nat → Value, a = ⟨rlst n x 0⟩ := by
  refine ⟨fun i => a.toList.getD i .nilIface, ?_⟩
  have e := rlst_eq a.toList .nilIface n 0 (by simpa using h)
  rw [List.drop_zero] at e
  rw [← e]
theorem lit54 (a : Array Value) (h : a.size = 54) : ∃ x : Nat → Value, a = #[x 0, x 1, x 2, x 3, x 4, x 5, x 6, x 7, x 8, x 9, x 10, x 11, x 12, x 13, x 14, x 15, x 16, x 17, x 18, x 19, x 20, x 21, x 22, x 23, x 24, x 25, x 26, x 27, x 28, x 29, x 30, x 31, x 32, x 33, x 34, x 35, x 36, x 37, x 38, x 39, x 40, x 41, x 42, x 43, x 44, x 45, x 46, x 47, x 48, x 49, x 50, x 51, x 52, x 53] := arr_rlst a 54 h
theorem AF.open {rb fb z ob : Nat} {a : Array Value} {v6 : Value} {C : Array Value → Prop} (h : AF rb fb z ob a) (h6 : a[6]? = some v6)
    (hx : ∀ x : Nat → Value, C #[.pointer (some ⟨rb, 0, none⟩), x 1, x 2, .pointer (some ⟨fb, 0, none⟩), .pointer (some ⟨z, 0, none⟩), .pointer (some ⟨ob, 0, none⟩), v6, x 7, x 8, x 9, x 10, x 11, x 12, x 13, x 14, x 15, x 16, x 17, x 18, x 19, x 20, x 21, x 22, x 23, x 24, x 25, x 26, x 27, x 28, x 29, x 30, x 31, x 32, x 33, x 34, x 35, x 36, x 37, x 38, x 39, x 40, x 41, x 42, x 43, x 44, x 45, x 46, x 47, x 48, x 49, x 50, x 51, x 52, x 53]) : C a := by
  obtain ⟨x, rfl⟩ := lit54 a h.sz
  have h0 : x 0 = _ := Option.some.inj h.s0
  have h3 : x 3 = _ := Option.some.inj h.s3
  have h4 : x 4 = _ := Option.some.inj h.s4
  have h5 : x 5 = _ := Option.some.inj h.s5
  have h6 : x 6 = _ := Option.some.inj h6
  rw [h0, h3, h4, h5, h6]
  exact hx x
theorem oneC_Z : ∀ u ∈ reZ.toList, u.oneCell' = true := oneC_reC oneC_no rfl
theorem infoReB : (Tryf.prog.info? tRe).map (fun i => (i.zero, i.size, i.bytes)) = some (some (.agg reZ), 132, 176) := by kernel_rfl
theorem ownK {w W : World} {X : Nat → Prop} {B : Nat} {e : TypeId} {sz n : Nat} {la : Option Addr} {lc : Nat} {ks : List Value} (h : w.ownsRow B e sz (.slice la n lc) n ks) (k : Kp X w W) (hla : ∀ p, la = some p → ¬ X p.block) : W.ownsRow B e sz (.slice la n lc) n ks := by
  refine ⟨h.1, ?_⟩
  rcases h.2 with h0 | ⟨g, cap, cur, hv, hb, hg, rest⟩
  · exact .inl h0
  · cases hv
    exact .inr ⟨g, _, cur, rfl, hb, k.heap (hla _ rfl) hg, rest⟩
/-- the blocks that a reading may turn -/
def XR (rb fb g : Nat) : Prop := g = rb ∨ g = fb
/-- behind the append: all that the two stores want -/
structure AP (w W w3 : World) (B rb fb g1 o g n : Nat) (la : Option Addr) (ks : List Value) (c' cur : Array Value) (cap : Nat) : Prop where
  row : w3.heap[g]? = some (.cells cur tRe (0, 0))
  fit : n * 132 + 132 ≤ cur.size
  own : (w3.setRow g (splice cur (n * 132) c'.toList)).ownsRow B tRe 132 (.slice (some ⟨g, 0, none⟩) (n + 1) cap) (n + 1) (ks ++ c'.toList)
  ne : g ≠ g1
  grow : W.grownBy w3 (la.map (·.block))
  hat : la.map (·.block) = some g ∨ W.heap.size ≤ g
theorem ownBlock_slice (la : Option Addr) (n lc : Nat) : (Value.slice la n lc).ownBlock = la.map (·.block) := by cases la <;> rfl
theorem ap_of {w W w3 : World} {B rb fb g1 o g n lcap cap : Nat} {la : Option Addr} {ks : List Value} {r1 c' : Array Value} (hg1 : w.heap[g1]? = some (.cells r1 tRe (0, 0))) (k : Kp (XR rb fb) w W) (hla : ∀ p, la = some p → ¬ XR rb fb p.block ∧ p.block ≠ g1)
    (hown : w3.ownsRow B tRe 132 (.slice (some ⟨g, 0, none⟩) (n + 1) cap) (n + 1) (ks ++ reZ.toList)) (hk : ks.length = n * 132) (hc : c'.size = 132) (hgrow : W.grownBy w3 (Value.slice la n lcap).ownBlock) (hat : (Value.slice la n lcap).ownBlock = some g ∨ g = W.heap.size) :
    ∃ cur, AP w W w3 B rb fb g1 o g n la ks c' cur cap := by
  rw [ownBlock_slice] at hgrow hat
  obtain ⟨cur, h1, h2, h3⟩ := own_splice hown hk (vs := c'.toList) (by simpa using hc)
  have hlt : g1 < w.heap.size := (Array.getElem?_eq_some_iff.1 hg1).1
  refine ⟨cur, h1, h2, h3, ?_, hgrow, hat.imp id (fun e => by omega)⟩
  rintro rfl
  rcases hat with h | h
  · cases la with
    | none => cases h
    | some p => exact (hla p rfl).2 (by simpa using h)
  · have := k.size; omega
theorem AP.big {w W w3 : World} {B rb fb g1 o g n cap : Nat} {la : Option Addr} {ks : List Value} {c' cur : Array Value} (h : AP w W w3 B rb fb g1 o g n la ks c' cur cap) (hW : w.heap.size < W.heap.size) : w.heap.size < w3.heap.size := by
  have := h.grow.size; omega
/-- what the stores read and write -/
theorem AP.facts {w W w3 : World} {B rb fb g1 o g n lcap cap : Nat} {la : Option Addr} {ks : List Value} {r1 c' cur : Array Value} (h : AP w W w3 B rb fb g1 o g n la ks c' cur cap) (hg1 : w.heap[g1]? = some (.cells r1 tRe (0, 0))) (hr1 : r1[o + 129]? = some (.slice la n lcap)) (hx1 : ¬ XR rb fb g1) (k : Kp (XR rb fb) w W) (hla : ∀ p, la = some p → ¬ XR rb fb p.block ∧ p.block ≠ g1)
    (hc : c'.size = 132) (h1 : oneC c'.toList) :
    w3.heap[g1]? = some (.cells r1 tRe (0, 0)) ∧ w3.cell? ⟨g1, o + 129, none⟩ = some (.slice la n lcap) ∧ w3.frozen? ⟨g1, o + 129, none⟩ = false ∧
    (w3.setRow g (splice cur (n * 132) c'.toList)).cell? ⟨g1, o + 129, none⟩ = some (.slice la n lcap) ∧ (w3.setRow g (splice cur (n * 132) c'.toList)).frozen? ⟨g1, o + 129, none⟩ = false ∧
    (storeCells ⟨g, n * 132, none⟩ c'.toList).run Tryf.prog w3 = .ok () (w3.setRow g (splice cur (n * 132) c'.toList)) ∧
    (∀ v, (storeCells ⟨g, n * 132, none⟩ c'.toList).run Tryf.prog (w3.setCell ⟨g1, o + 129, none⟩ v) = .ok () ((w3.setCell ⟨g1, o + 129, none⟩ v).setRow g (splice cur (n * 132) c'.toList))) := by
  have hlt : g1 < w.heap.size := (Array.getElem?_eq_some_iff.1 hg1).1
  have e3 : w3.heap[g1]? = some (.cells r1 tRe (0, 0)) := by
    rw [h.grow.block g1 (Nat.lt_of_lt_of_le hlt k.size) (fun e => by
      cases la with
      | none => cases e
      | some p => exact (hla p rfl).2 (by simpa using e.symm))]
    exact k.heap hx1 hg1
  have e4 : (w3.setRow g (splice cur (n * 132) c'.toList)).heap[g1]? = some (.cells r1 tRe (0, 0)) := by rw [setRow_other _ _ _ _ h.ne.symm]; exact e3
  have hfit := h.fit
  refine ⟨e3, by rw [Lib.cell_of_heap e3]; exact hr1, Lib.frozen_of_heap e3 _, by rw [Lib.cell_of_heap e4]; exact hr1, Lib.frozen_of_heap e4 _, ?_, fun v => ?_⟩
  · exact storeMid w3 g (n * 132) cur tRe c'.toList h.row (by rw [Array.length_toList, hc]; exact hfit) h1
  · exact storeMid _ g (n * 132) cur tRe c'.toList (by rw [heap_setCell_other _ _ _ _ h.ne]; exact h.row) (by rw [Array.length_toList, hc]; exact hfit) h1
/-- behind the statement: the last list has one kid more -/
structure A4 (W w4 : World) (B g1 o g n cap : Nat) (la : Option Addr) (ks : List Value) (c' r1 : Array Value) : Prop where
  own : w4.ownsRow B tRe 132 (.slice (some ⟨g, 0, none⟩) (n + 1) cap) (n + 1) (ks ++ c'.toList)
  row : w4.heap[g1]? = some (.cells (r1.setIfInBounds (o + 129) (.slice (some ⟨g, 0, none⟩) (n + 1) cap)) tRe (0, 0))
  kp : Kp (fun x => x = g1 ∨ la.map (·.block) = some x) W w4
  ne : g ≠ g1
  hat : la.map (·.block) = some g ∨ W.heap.size ≤ g
theorem ownsRow_kept {w W : World} {X : Nat → Prop} {B : Nat} {e : TypeId} {sz n m g lc : Nat} {ks : List Value} (h : w.ownsRow B e sz (.slice (some ⟨g, 0, none⟩) n lc) m ks) (k : Kp X w W) (hg : ¬ X g) : W.ownsRow B e sz (.slice (some ⟨g, 0, none⟩) n lc) m ks := by
  refine ⟨h.1, ?_⟩
  rcases h.2 with h0 | ⟨g', cap, cur, hv, hb, hgg, rest⟩
  · exact .inl h0
  · cases hv
    exact .inr ⟨g, _, cur, rfl, hb, k.heap hg hgg, rest⟩
theorem grown_kp {W w3 : World} {b : Option Nat} (h : W.grownBy w3 b) : Kp (fun x => b = some x) W w3 := ⟨h.os, h.tape, h.output, h.size, fun k hk hx => h.block k hk (fun e => hx e.symm)⟩
theorem AP.end1 {w W w3 : World} {B rb fb g1 o g n cap : Nat} {la : Option Addr} {ks : List Value} {r1 c' cur : Array Value} (h : AP w W w3 B rb fb g1 o g n la ks c' cur cap) (e3 : w3.heap[g1]? = some (.cells r1 tRe (0, 0))) :
    A4 W ((w3.setRow g (splice cur (n * 132) c'.toList)).setCell ⟨g1, o + 129, none⟩ (.slice (some ⟨g, 0, none⟩) (n + 1) cap)) B g1 o g n cap la ks c' r1 := by
  have e4 : (w3.setRow g (splice cur (n * 132) c'.toList)).heap[g1]? = some (.cells r1 tRe (0, 0)) := by rw [setRow_other _ _ _ _ h.ne.symm]; exact e3
  have k3 := (grown_kp h.grow).mono (Y := fun x => x = g1 ∨ la.map (·.block) = some x) (fun k _ hk => .inr hk)
  refine ⟨ownsRow_kept h.own (Kp.setCell (X := (· = g1)) (p := ⟨g1, o + 129, none⟩) (Kp.refl _ _) (.inl rfl) _) h.ne, ?_, (k3.setRow (h.hat.imp .inr id) _).setCell (p := ⟨g1, o + 129, none⟩) (.inl (.inl rfl)) _, h.ne, h.hat⟩
  exact heap_setCell_same _ _ _ _ _ _ e4
theorem AP.end2 {w W w3 : World} {B rb fb g1 o g n cap : Nat} {la : Option Addr} {ks : List Value} {r1 c' cur : Array Value} (h : AP w W w3 B rb fb g1 o g n la ks c' cur cap) (e3 : w3.heap[g1]? = some (.cells r1 tRe (0, 0))) :
    A4 W ((w3.setCell ⟨g1, o + 129, none⟩ (.slice (some ⟨g, 0, none⟩) (n + 1) cap)).setRow g (splice cur (n * 132) c'.toList)) B g1 o g n cap la ks c' r1 := by
  have k3 := (grown_kp h.grow).mono (Y := fun x => x = g1 ∨ la.map (·.block) = some x) (fun k _ hk => .inr hk)
  have hs : ((w3.setCell ⟨g1, o + 129, none⟩ (.slice (some ⟨g, 0, none⟩) (n + 1) cap)).setRow g (splice cur (n * 132) c'.toList)).heap[g]? = (w3.setRow g (splice cur (n * 132) c'.toList)).heap[g]? := by
    rw [setRow_heap _ _ cur _ tRe (0, 0) (by rw [heap_setCell_other _ _ _ _ h.ne]; exact h.row), setRow_heap _ _ cur _ tRe (0, 0) h.row]
  refine ⟨⟨h.own.1, ?_⟩, ?_, (k3.setCell (p := ⟨g1, o + 129, none⟩) (.inl (.inl rfl)) _).setRow (h.hat.imp .inr id) _, h.ne, h.hat⟩
  · rcases h.own.2 with h0 | ⟨g', cap', cur', hv, hb, hgg, rest⟩
    · exact .inl h0
    · cases hv
      exact .inr ⟨g, _, cur', rfl, hb, hs.trans hgg, rest⟩
  · rw [setRow_other _ _ _ _ h.ne.symm]; exact heap_setCell_same _ _ _ _ _ _ e3
end Go.Proofs.YtonifkkdokaooaaFmt
