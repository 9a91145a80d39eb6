/- Joined by pack.py: RdBs, RdK, RdJ, RdI, RdL, RdM, RdO, RdP. -/
import Derived.Test.YtpfgmiocdgfniaaGreatFmtP24
import Derived.Great.BuildSlice
import Derived.Test.YtpfgmiocdgfniaaGreatFmtP25
import Derived.Deep.Cut
set_option linter.unusedVariables false
set_option maxHeartbeats 8000000
set_option maxRecDepth 1000000
namespace Go.Proofs.YtpfgmiocdgfniaaGreatFmt
open Go.RowKit
theorem fold_zip_list (l : List Value) : ∀ (a : Array Value) (p : List Value), a.size = p.length + l.length → a.toList.take p.length = p → (l.zipIdx p.length).foldl (fun cs x => cs.setIfInBounds x.2 x.1) a = (p ++ l).toArray := by
  induction l with
  | nil =>
    intro a p h1 h2
    have : a.toList.take p.length = a.toList := List.take_of_length_le (by simp at h1 ⊢; omega)
    rw [this] at h2
    simp [← h2]
  | cons v r ih =>
    intro a p h1 h2
    rw [List.zipIdx_cons, List.foldl_cons]
    have hl : (p ++ [v]).length = p.length + 1 := by simp
    have := ih (a.setIfInBounds p.length v) (p ++ [v]) (by simp at h1 ⊢; omega) (by
      rw [hl, Array.toList_setIfInBounds]
      apply List.ext_getElem?
      intro k
      have h3 : ∀ k, k < p.length → a.toList[k]? = p[k]? := fun k hk => by
        have := congrArg (fun l : List Value => l[k]?) h2
        simp only [List.getElem?_take] at this
        rw [if_pos hk] at this; exact this
      rw [List.getElem?_take, List.getElem?_set, List.getElem?_append]
      by_cases e : k < p.length
      · rw [if_pos (by omega), if_neg (by omega), if_pos e, h3 k e]
      · by_cases e2 : k = p.length
        · subst e2
          rw [if_pos (by omega), if_pos rfl, if_pos (by simp at h1 ⊢; omega), if_neg e]
          simp
        · rw [if_neg (by omega), if_neg e, List.getElem?_eq_none (by simp; omega)])
    rw [hl] at this
    rw [this]; simp
theorem zlit : Value.agg (List.append (List.append (Value.int IntKind.i64 0 :: Value.bool false :: Value.bool false :: Value.bool false :: Value.bool false :: Value.bool false :: Value.bool false :: Value.bool false :: Value.bool false :: Value.bool false :: Value.bool false :: Value.bool false :: Value.bool false :: Value.bool false :: Value.bool false :: Value.bool false :: Value.bool false :: Value.bool false :: Value.bool false :: Value.bool false :: Value.bool false :: Value.bool false :: Value.bool false :: Value.bool false :: Value.bool false :: Value.bool false :: Value.bool false :: Value.bool false :: Value.bool false :: Value.bool false :: Value.bool false :: Value.bool false :: Value.bool false :: []) (Value.bool false :: Value.bool false :: Value.bool false :: Value.bool false :: Value.bool false :: Value.bool false :: Value.bool false :: Value.bool false :: Value.bool false :: Value.bool false :: Value.bool false :: Value.bool false :: Value.bool false :: Value.bool false :: Value.bool false :: Value.bool false :: Value.bool false :: Value.bool false :: Value.bool false :: Value.bool false :: Value.bool false :: Value.bool false :: Value.bool false :: Value.bool false :: Value.bool false :: Value.bool false :: Value.bool false :: Value.bool false :: Value.bool false :: Value.bool false :: Value.bool false :: Value.bool false :: Value.bool false :: [])) (List.append (Value.bool false :: Value.bool false :: Value.bool false :: Value.bool false :: Value.bool false :: Value.bool false :: Value.bool false :: Value.bool false :: Value.bool false :: Value.bool false :: Value.bool false :: Value.bool false :: Value.bool false :: Value.bool false :: Value.bool false :: Value.bool false :: Value.bool false :: Value.bool false :: Value.bool false :: Value.bool false :: Value.bool false :: Value.bool false :: Value.bool false :: Value.bool false :: Value.bool false :: Value.bool false :: Value.bool false :: Value.bool false :: Value.bool false :: Value.bool false :: Value.bool false :: Value.bool false :: Value.bool false :: []) (Value.bool false :: Value.bool false :: Value.bool false :: Value.bool false :: Value.bool false :: Value.bool false :: Value.bool false :: Value.bool false :: Value.bool false :: Value.bool false :: Value.bool false :: Value.bool false :: Value.bool false :: Value.bool false :: Value.bool false :: Value.bool false :: Value.bool false :: Value.bool false :: Value.bool false :: Value.bool false :: Value.bool false :: Value.bool false :: Value.bool false :: Value.bool false :: Value.bool false :: Value.bool false :: Value.bool false :: Value.bool false :: Value.bool false :: Value.bool false :: Value.slice none 0 0 :: Value.int IntKind.i64 0 :: Value.int IntKind.i64 0 :: []))).toArray = Value.agg reZ := by kernel_rfl
theorem infoRe2 : ∃ ie, Tryz.prog.info? tRe = some ie ∧ ie.zero = some (.agg reZ) ∧ ie.size = 132 := by
  have h := infoRe
  cases hq : Tryz.prog.info? tRe with
  | none => simp [hq] at h
  | some ie =>
    simp only [hq, Option.map_some, Option.some.injEq, Prod.mk.injEq] at h
    exact ⟨ie, rfl, h.1, h.2⟩
theorem fill_one (c old : Array Value) (hc : c.size = 132) (ho : old.size = 132) : Instr.fill (fun i => some (i * 132, 132)) old [(0, .agg c)] = some c := by
  have h1 := fold_zip_list c.toList old [] (by simp [ho, hc]) rfl
  have e : c.zipIdx.foldl (fun cs (x : Value × Nat) => cs.setIfInBounds (0 * 132 + x.2) x.1) old = c := by
    simp only [Nat.zero_mul, Nat.zero_add]
    rw [← Array.foldl_toList, Array.toList_zipIdx]
    simpa using h1
  have hb : (decide (c.size ≠ 132) || decide (0 * 132 + c.size > old.size)) = false := by simp; omega
  show (if (decide (c.size ≠ 132) || decide (0 * 132 + c.size > old.size)) = true then none else some (c.zipIdx.foldl (fun cs (x : Value × Nat) => cs.setIfInBounds (0 * 132 + x.2) x.1) old)) = some c
  rw [hb, e]
  rfl
theorem run_bs (w : World) (c : Array Value) (hc : c.size = 132) : (Instr.buildSlice 29 1 #[(0, .agg c)]).run Tryz.prog w = .ok (.slice (some ⟨w.heap.size, 0, none⟩) 1 1) (w.alloc (.cells c tRe)) := by
  obtain ⟨ie, h1, h2, h3⟩ := infoRe2
  refine run_buildSlice w _ tRe 1 _ c ie (.agg reZ) Tryz.underlying29 h1 h2 (by rw [h3]; omega) (by rw [h3]; omega) ?_
  rw [h3]
  exact fill_one c _ hc (by simp)
theorem wp_bsZ (d : Tmp) (ty : TypeId) (pos : String) (aft : Array Edge) (g : Option (Nat × Bool)) (a : Act) (w : World) (K : Act → World → Prop) (Q : Exit → Act → World → Prop) :
    Oper.wp Tryz.prog ⟨some d, .buildSlice 29 1 #[(0, .const (.agg reZ))], ty, pos, aft, g⟩ a w K Q = K (a.put (some d) (.slice (some ⟨w.heap.size, 0, none⟩) 1 1)) (w.alloc (.cells reZ tRe)) := by
  unfold Oper.wp execOp
  have e : Array.map (fun x : Nat × Operand => (x.fst, a.eval x.snd)) #[(0, Operand.const (Value.agg reZ))] = #[(0, .agg reZ)] := by simp [Act.eval]
  simp only [Sem.run_bind, e, run_bs w reZ rfl, Result.andThen_ok, Sem.run_pure, Oper.upon_value]
theorem wp_bs (d : Tmp) (ty : TypeId) (pos : String) (aft : Array Edge) (g : Option (Nat × Bool)) (a : Act) (w : World) (K : Act → World → Prop) (Q : Exit → Act → World → Prop) (x : Operand) (c : Array Value) (hx : a.eval x = .agg c) (hc : c.size = 132)
    (h : K (a.put (some d) (.slice (some ⟨w.heap.size, 0, none⟩) 1 1)) (w.alloc (.cells c tRe))) :
    Oper.wp Tryz.prog ⟨some d, .buildSlice 29 1 #[(0, x)], ty, pos, aft, g⟩ a w K Q := by
  unfold Oper.wp execOp
  have e : Array.map (fun x : Nat × Operand => (x.fst, a.eval x.snd)) #[(0, x)] = #[(0, .agg c)] := by simp [hx]
  simp only [Sem.run_bind, e, run_bs w c hc, Result.andThen_ok, Sem.run_pure, Oper.upon_value]
  exact h
end Go.Proofs.YtpfgmiocdgfniaaGreatFmt

namespace Go.Proofs.YtpfgmiocdgfniaaGreatFmt
open Go.RowKit
def splice (cur : Array Value) (o : Nat) (cs : List Value) : Array Value := (cur.toList.take o ++ (cs ++ cur.toList.drop (o + cs.length))).toArray
theorem splice_nil (cur : Array Value) (o : Nat) : splice cur o [] = cur := by simp [splice]
theorem splice_cons (cur : Array Value) (o : Nat) (v : Value) (r : List Value) (h : o < cur.size) : splice (cur.setIfInBounds o v) (o + 1) r = splice cur o (v :: r) := by
  unfold splice
  have hA : (cur.toList.take o).length = o := by simp; omega
  have e : (cur.setIfInBounds o v).toList = cur.toList.take o ++ v :: cur.toList.drop (o + 1) := by
    rw [Array.toList_setIfInBounds, List.set_eq_take_append_cons_drop, if_pos (by simpa using h)]
  rw [e]
  have e1 : List.take (o + 1) (cur.toList.take o ++ v :: cur.toList.drop (o + 1)) = cur.toList.take o ++ [v] := by
    rw [List.take_append, hA, List.take_of_length_le (by omega), show o + 1 - o = 1 from by omega]; rfl
  have e2 : List.drop (o + 1 + r.length) (cur.toList.take o ++ v :: cur.toList.drop (o + 1)) = cur.toList.drop (o + (v :: r).length) := by
    rw [List.drop_append, hA, List.drop_of_length_le (by omega), show o + 1 + r.length - o = r.length + 1 from by omega, List.drop_succ_cons, List.drop_drop, List.nil_append]
    congr 1; simp; omega
  rw [e1, e2]
  simp
theorem splice_size (cur : Array Value) (o : Nat) (cs : List Value) (h : o + cs.length ≤ cur.size) : (splice cur o cs).size = cur.size := by
  simp [splice]; omega
theorem storeMid_from (g o : Nat) (t : TypeId) : ∀ (vs : List Value) (i : Nat) (cur : Array Value) (w : World), w.heap[g]? = some (.cells cur t (0, 0)) → o + i + vs.length ≤ cur.size → oneC vs →
    (storeCells ⟨g, o, none⟩ vs i).run Tryz.prog w = .ok () (w.setRow g (splice cur (o + i) vs))
  | [], i, cur, w, hg, _, _ => by
    have := run_storeCells_from (P := Tryz.prog) g t [] cur.size cur w hg (by simp) (by intro v hv; cases hv)
    simp only [storeCells] at this ⊢
    rw [this, splice_nil]
    congr 2
    rw [List.append_nil, List.take_of_length_le (by simp)]
  | v :: rest, i, cur, w, hg, hl, h1 => by
    have hi : o + i < cur.size := by simp at hl; omega
    have hadd : (⟨g, o, none⟩ : Addr).add i = ⟨g, o + i, none⟩ := by unfold Addr.add; split <;> simp_all
    have hcell : w.cell? ⟨g, o + i, none⟩ = some cur[o + i] := by simp [World.cell?, hg, hi]
    have hfro : w.frozen? ⟨g, o + i, none⟩ = false := by simp [World.frozen?, hg]
    have hst : (store ((⟨g, o, none⟩ : Addr).add i) v).run Tryz.prog w = .ok () (w.setRow g (cur.setIfInBounds (o + i) v)) := by
      rw [hadd, run_store Tryz.prog w _ v _ (h1 v (by simp)), hcell]
      simp [hfro, setCell_eq_setRow w g (o + i) cur t (0, 0) v hg]
    have ih := storeMid_from g o t rest (i + 1) (cur.setIfInBounds (o + i) v) (w.setRow g (cur.setIfInBounds (o + i) v)) (setRow_heap w g cur _ t _ hg) (by simp at hl ⊢; omega) (fun x hx => h1 x (by simp [hx]))
    simp only [storeCells, Sem.run_bind, hst, Result.andThen_ok, ih, setRow_setRow]
    rw [← splice_cons cur (o + i) v rest hi]
    rfl
theorem storeMid (w : World) (g o : Nat) (cur : Array Value) (t : TypeId) (vs : List Value) (hg : w.heap[g]? = some (.cells cur t (0, 0))) (hl : o + vs.length ≤ cur.size) (h1 : oneC vs) :
    (storeCells ⟨g, o, none⟩ vs).run Tryz.prog w = .ok () (w.setRow g (splice cur o vs)) := storeMid_from g o t vs 0 cur w hg hl h1
theorem own_splice {w : World} {B g cap n : Nat} {ks zs vs : List Value} {e : TypeId} (h : w.ownsRow B e 132 (.slice (some ⟨g, 0, none⟩) (n + 1) cap) (n + 1) (ks ++ zs)) (hk : ks.length = n * 132) (hv : vs.length = 132) :
    ∃ cur, w.heap[g]? = some (.cells cur e (0, 0)) ∧ n * 132 + 132 ≤ cur.size ∧ (w.setRow g (splice cur (n * 132) vs)).ownsRow B e 132 (.slice (some ⟨g, 0, none⟩) (n + 1) cap) (n + 1) (ks ++ vs) := by
  have hlen := h.1
  rcases h.2 with ⟨h0, _⟩ | ⟨g', cap', cur, hvv, hb, hg, hc1, hc2, hsz, ht⟩
  · cases h0
  · cases hvv
    have hs : n * 132 + 132 ≤ cur.size := by rw [hsz]; have := Nat.mul_le_mul_right 132 hc1; omega
    have hks : cur.toList.take (n * 132) = ks := by
      have := congrArg (List.take (n * 132)) ht
      rw [List.take_take, Nat.min_eq_left (by omega), List.take_append_of_le_length (by omega), List.take_of_length_le (by omega : ks.length ≤ n * 132)] at this
      exact this
    refine ⟨cur, hg, hs, by simp [hk, hv]; omega, .inr ⟨g, cap, _, rfl, hb, setRow_heap _ _ _ _ _ _ hg, hc1, hc2, by rw [splice_size _ _ _ (by omega), hsz], ?_⟩⟩
    unfold splice
    simp only []
    rw [hks, ← List.append_assoc, List.take_append_of_le_length (by simp [hk, hv]; omega), List.take_of_length_le (by simp [hk, hv]; omega)]
end Go.Proofs.YtpfgmiocdgfniaaGreatFmt

namespace Go.Proofs.YtpfgmiocdgfniaaGreatFmt
open Go.RowKit
open Re (Fo)
def lq1 : Code → Code | .seq a _ => a | c => c
def lq2 : Code → Code | .seq _ b => b | c => c
def lbl : Code → Code | .block _ c => c | c => c
def llo : Code → Code | .loop c => c | c => c
def lth : Code → Code | .cond _ a _ => a | c => c
noncomputable def alB : Code := Tryz.f18.body.getD .skip
noncomputable def alL : Code := llo (lbl (lq1 (lq2 (lq2 alB))))
noncomputable def alI : Code := lbl (lq2 alL)
noncomputable def al2 : Code := lq1 alL
noncomputable def al34 : Code := lq1 alI
noncomputable def al5 : Code := lq1 (lq2 alI)
noncomputable def al6 : Code := lq2 (lq2 alI)
structure AF (rb fb z ob : Nat) (a : Array Value) : Prop where
  sz : a.size = 54
  s0 : a[0]? = some (.pointer (some ⟨rb, 0, none⟩))
  s3 : a[3]? = some (.pointer (some ⟨fb, 0, none⟩))
  s4 : a[4]? = some (.pointer (some ⟨z, 0, none⟩))
  s5 : a[5]? = some (.pointer (some ⟨ob, 0, none⟩))
def rlst : Nat → (Nat → Value) → Nat → List Value
  | 0, _, _ => []
  | n + 1, x, k => x k :: rlst n x (k + 1)
theorem rlst_eq (l : List Value) (d : Value) : ∀ (n k : Nat), l.length = k + n → l.drop k = rlst n (fun i => l.getD i d) k
  | 0, k, h => by simp [rlst, h]
  | n + 1, k, h => by
    have hk : k < l.length := by omega
    rw [List.drop_eq_getElem_cons hk, rlst, rlst_eq l d n (k + 1) (by omega)]
    simp [List.getD, hk]
theorem arr_rlst (a : Array Value) (n : Nat) (h : a.size = n) : ∃ x : Nat → Value, a = ⟨rlst n x 0⟩ := by
  refine ⟨fun i => a.toList.getD i .nilIface, ?_⟩
  have e := rlst_eq a.toList .nilIface n 0 (by simpa using h)
  rw [List.drop_zero] at e
  rw [← e]
theorem lit54 (a : Array Value) (h : a.size = 54) : ∃ x : Nat → Value, a = #[x 0, x 1, x 2, x 3, x 4, x 5, x 6, x 7, x 8, x 9, x 10, x 11, x 12, x 13, x 14, x 15, x 16, x 17, x 18, x 19, x 20, x 21, x 22, x 23, x 24, x 25, x 26, x 27, x 28, x 29, x 30, x 31, x 32, x 33, x 34, x 35, x 36, x 37, x 38, x 39, x 40, x 41, x 42, x 43, x 44, x 45, x 46, x 47, x 48, x 49, x 50, x 51, x 52, x 53] := arr_rlst a 54 h
theorem AF.open {rb fb z ob : Nat} {a : Array Value} {v6 : Value} {C : Array Value → Prop} (h : AF rb fb z ob a) (h6 : a[6]? = some v6)
    (hx : ∀ x : Nat → Value, C #[.pointer (some ⟨rb, 0, none⟩), x 1, x 2, .pointer (some ⟨fb, 0, none⟩), .pointer (some ⟨z, 0, none⟩), .pointer (some ⟨ob, 0, none⟩), v6, x 7, x 8, x 9, x 10, x 11, x 12, x 13, x 14, x 15, x 16, x 17, x 18, x 19, x 20, x 21, x 22, x 23, x 24, x 25, x 26, x 27, x 28, x 29, x 30, x 31, x 32, x 33, x 34, x 35, x 36, x 37, x 38, x 39, x 40, x 41, x 42, x 43, x 44, x 45, x 46, x 47, x 48, x 49, x 50, x 51, x 52, x 53]) : C a := by
  obtain ⟨x, rfl⟩ := lit54 a h.sz
  have h0 : x 0 = _ := Option.some.inj h.s0
  have h3 : x 3 = _ := Option.some.inj h.s3
  have h4 : x 4 = _ := Option.some.inj h.s4
  have h5 : x 5 = _ := Option.some.inj h.s5
  have h6 : x 6 = _ := Option.some.inj h6
  rw [h0, h3, h4, h5, h6]
  exact hx x
theorem oneC_Z : ∀ u ∈ reZ.toList, u.oneCell' = true := oneC_reC oneC_no rfl
theorem infoReB : (Tryz.prog.info? tRe).map (fun i => (i.zero, i.size, i.bytes)) = some (some (.agg reZ), 132, 176) := by kernel_rfl
theorem ownK {w W : World} {X : Nat → Prop} {B : Nat} {e : TypeId} {sz n : Nat} {la : Option Addr} {lc : Nat} {ks : List Value} (h : w.ownsRow B e sz (.slice la n lc) n ks) (k : Kp X w W) (hla : ∀ p, la = some p → ¬ X p.block) : W.ownsRow B e sz (.slice la n lc) n ks := by
  refine ⟨h.1, ?_⟩
  rcases h.2 with h0 | ⟨g, cap, cur, hv, hb, hg, rest⟩
  · exact .inl h0
  · cases hv
    exact .inr ⟨g, _, cur, rfl, hb, k.heap (hla _ rfl) hg, rest⟩
def XR (rb fb g : Nat) : Prop := g = rb ∨ g = fb
structure AP (w W w3 : World) (B rb fb g1 o g n : Nat) (la : Option Addr) (ks : List Value) (c' cur : Array Value) (cap : Nat) : Prop where
  row : w3.heap[g]? = some (.cells cur tRe (0, 0))
  fit : n * 132 + 132 ≤ cur.size
  own : (w3.setRow g (splice cur (n * 132) c'.toList)).ownsRow B tRe 132 (.slice (some ⟨g, 0, none⟩) (n + 1) cap) (n + 1) (ks ++ c'.toList)
  ne : g ≠ g1
  grow : W.grownBy w3 (la.map (·.block))
  hat : la.map (·.block) = some g ∨ W.heap.size ≤ g
theorem ownBlock_slice (la : Option Addr) (n lc : Nat) : (Value.slice la n lc).ownBlock = la.map (·.block) := by cases la <;> rfl
theorem ap_of {w W w3 : World} {B rb fb g1 o g n lcap cap : Nat} {la : Option Addr} {ks : List Value} {r1 c' : Array Value} (hg1 : w.heap[g1]? = some (.cells r1 tRe (0, 0))) (k : Kp (XR rb fb) w W) (hla : ∀ p, la = some p → ¬ XR rb fb p.block ∧ p.block ≠ g1)
    (hown : w3.ownsRow B tRe 132 (.slice (some ⟨g, 0, none⟩) (n + 1) cap) (n + 1) (ks ++ reZ.toList)) (hk : ks.length = n * 132) (hc : c'.size = 132) (hgrow : W.grownBy w3 (Value.slice la n lcap).ownBlock) (hat : (Value.slice la n lcap).ownBlock = some g ∨ g = W.heap.size) :
    ∃ cur, AP w W w3 B rb fb g1 o g n la ks c' cur cap := by
  rw [ownBlock_slice] at hgrow hat
  obtain ⟨cur, h1, h2, h3⟩ := own_splice hown hk (vs := c'.toList) (by simpa using hc)
  have hlt : g1 < w.heap.size := (Array.getElem?_eq_some_iff.1 hg1).1
  refine ⟨cur, h1, h2, h3, ?_, hgrow, hat.imp id (fun e => by omega)⟩
  rintro rfl
  rcases hat with h | h
  · cases la with
    | none => cases h
    | some p => exact (hla p rfl).2 (by simpa using h)
  · have := k.size; omega
theorem AP.big {w W w3 : World} {B rb fb g1 o g n cap : Nat} {la : Option Addr} {ks : List Value} {c' cur : Array Value} (h : AP w W w3 B rb fb g1 o g n la ks c' cur cap) (hW : w.heap.size < W.heap.size) : w.heap.size < w3.heap.size := by
  have := h.grow.size; omega
theorem AP.facts {w W w3 : World} {B rb fb g1 o g n lcap cap : Nat} {la : Option Addr} {ks : List Value} {r1 c' cur : Array Value} (h : AP w W w3 B rb fb g1 o g n la ks c' cur cap) (hg1 : w.heap[g1]? = some (.cells r1 tRe (0, 0))) (hr1 : r1[o + 129]? = some (.slice la n lcap)) (hx1 : ¬ XR rb fb g1) (k : Kp (XR rb fb) w W) (hla : ∀ p, la = some p → ¬ XR rb fb p.block ∧ p.block ≠ g1)
    (hc : c'.size = 132) (h1 : oneC c'.toList) :
    w3.heap[g1]? = some (.cells r1 tRe (0, 0)) ∧ w3.cell? ⟨g1, o + 129, none⟩ = some (.slice la n lcap) ∧ w3.frozen? ⟨g1, o + 129, none⟩ = false ∧
    (w3.setRow g (splice cur (n * 132) c'.toList)).cell? ⟨g1, o + 129, none⟩ = some (.slice la n lcap) ∧ (w3.setRow g (splice cur (n * 132) c'.toList)).frozen? ⟨g1, o + 129, none⟩ = false ∧
    (storeCells ⟨g, n * 132, none⟩ c'.toList).run Tryz.prog w3 = .ok () (w3.setRow g (splice cur (n * 132) c'.toList)) ∧
    (∀ v, (storeCells ⟨g, n * 132, none⟩ c'.toList).run Tryz.prog (w3.setCell ⟨g1, o + 129, none⟩ v) = .ok () ((w3.setCell ⟨g1, o + 129, none⟩ v).setRow g (splice cur (n * 132) c'.toList))) := by
  have hlt : g1 < w.heap.size := (Array.getElem?_eq_some_iff.1 hg1).1
  have e3 : w3.heap[g1]? = some (.cells r1 tRe (0, 0)) := by
    rw [h.grow.block g1 (Nat.lt_of_lt_of_le hlt k.size) (fun e => by
      cases la with
      | none => cases e
      | some p => exact (hla p rfl).2 (by simpa using e.symm))]
    exact k.heap hx1 hg1
  have e4 : (w3.setRow g (splice cur (n * 132) c'.toList)).heap[g1]? = some (.cells r1 tRe (0, 0)) := by rw [setRow_other _ _ _ _ h.ne.symm]; exact e3
  have hfit := h.fit
  refine ⟨e3, by rw [Lib.cell_of_heap e3]; exact hr1, Lib.frozen_of_heap e3 _, by rw [Lib.cell_of_heap e4]; exact hr1, Lib.frozen_of_heap e4 _, ?_, fun v => ?_⟩
  · exact storeMid w3 g (n * 132) cur tRe c'.toList h.row (by rw [Array.length_toList, hc]; exact hfit) h1
  · exact storeMid _ g (n * 132) cur tRe c'.toList (by rw [heap_setCell_other _ _ _ _ h.ne]; exact h.row) (by rw [Array.length_toList, hc]; exact hfit) h1
structure A4 (W w4 : World) (B g1 o g n cap : Nat) (la : Option Addr) (ks : List Value) (c' r1 : Array Value) : Prop where
  own : w4.ownsRow B tRe 132 (.slice (some ⟨g, 0, none⟩) (n + 1) cap) (n + 1) (ks ++ c'.toList)
  row : w4.heap[g1]? = some (.cells (r1.setIfInBounds (o + 129) (.slice (some ⟨g, 0, none⟩) (n + 1) cap)) tRe (0, 0))
  kp : Kp (fun x => x = g1 ∨ la.map (·.block) = some x) W w4
  ne : g ≠ g1
  hat : la.map (·.block) = some g ∨ W.heap.size ≤ g
theorem ownsRow_kept {w W : World} {X : Nat → Prop} {B : Nat} {e : TypeId} {sz n m g lc : Nat} {ks : List Value} (h : w.ownsRow B e sz (.slice (some ⟨g, 0, none⟩) n lc) m ks) (k : Kp X w W) (hg : ¬ X g) : W.ownsRow B e sz (.slice (some ⟨g, 0, none⟩) n lc) m ks := by
  refine ⟨h.1, ?_⟩
  rcases h.2 with h0 | ⟨g', cap, cur, hv, hb, hgg, rest⟩
  · exact .inl h0
  · cases hv
    exact .inr ⟨g, _, cur, rfl, hb, k.heap hg hgg, rest⟩
theorem grown_kp {W w3 : World} {b : Option Nat} (h : W.grownBy w3 b) : Kp (fun x => b = some x) W w3 := ⟨h.os, h.tape, h.output, h.size, fun k hk hx => h.block k hk (fun e => hx e.symm)⟩
theorem AP.end1 {w W w3 : World} {B rb fb g1 o g n cap : Nat} {la : Option Addr} {ks : List Value} {r1 c' cur : Array Value} (h : AP w W w3 B rb fb g1 o g n la ks c' cur cap) (e3 : w3.heap[g1]? = some (.cells r1 tRe (0, 0))) :
    A4 W ((w3.setRow g (splice cur (n * 132) c'.toList)).setCell ⟨g1, o + 129, none⟩ (.slice (some ⟨g, 0, none⟩) (n + 1) cap)) B g1 o g n cap la ks c' r1 := by
  have e4 : (w3.setRow g (splice cur (n * 132) c'.toList)).heap[g1]? = some (.cells r1 tRe (0, 0)) := by rw [setRow_other _ _ _ _ h.ne.symm]; exact e3
  have k3 := (grown_kp h.grow).mono (Y := fun x => x = g1 ∨ la.map (·.block) = some x) (fun k _ hk => .inr hk)
  refine ⟨ownsRow_kept h.own (Kp.setCell (X := (· = g1)) (p := ⟨g1, o + 129, none⟩) (Kp.refl _ _) (.inl rfl) _) h.ne, ?_, (k3.setRow (h.hat.imp .inr id) _).setCell (p := ⟨g1, o + 129, none⟩) (.inl (.inl rfl)) _, h.ne, h.hat⟩
  exact heap_setCell_same _ _ _ _ _ _ e4
theorem AP.end2 {w W w3 : World} {B rb fb g1 o g n cap : Nat} {la : Option Addr} {ks : List Value} {r1 c' cur : Array Value} (h : AP w W w3 B rb fb g1 o g n la ks c' cur cap) (e3 : w3.heap[g1]? = some (.cells r1 tRe (0, 0))) :
    A4 W ((w3.setCell ⟨g1, o + 129, none⟩ (.slice (some ⟨g, 0, none⟩) (n + 1) cap)).setRow g (splice cur (n * 132) c'.toList)) B g1 o g n cap la ks c' r1 := by
  have k3 := (grown_kp h.grow).mono (Y := fun x => x = g1 ∨ la.map (·.block) = some x) (fun k _ hk => .inr hk)
  have hs : ((w3.setCell ⟨g1, o + 129, none⟩ (.slice (some ⟨g, 0, none⟩) (n + 1) cap)).setRow g (splice cur (n * 132) c'.toList)).heap[g]? = (w3.setRow g (splice cur (n * 132) c'.toList)).heap[g]? := by
    rw [setRow_heap _ _ cur _ tRe (0, 0) (by rw [heap_setCell_other _ _ _ _ h.ne]; exact h.row), setRow_heap _ _ cur _ tRe (0, 0) h.row]
  refine ⟨⟨h.own.1, ?_⟩, ?_, (k3.setCell (p := ⟨g1, o + 129, none⟩) (.inl (.inl rfl)) _).setRow (h.hat.imp .inr id) _, h.ne, h.hat⟩
  · rcases h.own.2 with h0 | ⟨g', cap', cur', hv, hb, hgg, rest⟩
    · exact .inl h0
    · cases hv
      exact .inr ⟨g, _, cur', rfl, hb, hs.trans hgg, rest⟩
  · rw [setRow_other _ _ _ _ h.ne.symm]; exact heap_setCell_same _ _ _ _ _ _ e3
end Go.Proofs.YtpfgmiocdgfniaaGreatFmt

namespace Go.Proofs.YtpfgmiocdgfniaaGreatFmt
open Go.RowKit
open Re (Fo)
theorem reT_eq (kv : Value) (l m : Int) : ((((reZ.toList.set 0 (.int .i64 4)).set 129 kv).set 130 (.int .i64 l)).set 131 (.int .i64 m)).toArray = reC 4 noV kv l m := rfl
theorem oneC_reT (kv : Value) (h : kv.oneCell' = true) (l m : Int) : oneC ((((reZ.toList.set 0 (.int .i64 4)).set 129 kv).set 130 (.int .i64 l)).set 131 (.int .i64 m)) := oneC_reC (k := 4) (kv := kv) (l := l) (m := m) oneC_no h
theorem Tm.quant {rb : Nat} {s : ByteArray} {j : Nat} {c : Array Value} {w V : World} (h : Tm rb s j c w V) {c' : Array Value} : Tm rb s j c' w ((V.alloc (.cells c tRe)).setRow w.heap.size c') := by
  have hlt := h.lt
  have h1 := (Array.getElem?_eq_some_iff.1 h.n).1
  have h2 := (Array.getElem?_eq_some_iff.1 h.z).1
  have hnc : (V.alloc (.cells c tRe)).heap[w.heap.size]? = some (.cells c tRe (0, 0)) := by rw [Lib.alloc_old _ _ _ h1]; exact h.n
  refine ⟨?_, (h.k.alloc _).setRow (.inr (Nat.le_refl _)) _, setRow_heap _ _ _ _ _ _ hnc, ?_, hlt⟩
  · unfold RS
    rw [setRow_other _ _ _ _ (by omega)]
    exact h.r.kept ((Kp.refl (fun _ => False) V).alloc _) id
  · rw [setRow_other _ _ _ _ (by omega), Lib.alloc_old _ _ _ h2]; exact h.z
theorem Tm.row {rb : Nat} {s : ByteArray} {j : Nat} {c : Array Value} {w V : World} (h : Tm rb s j c w V) {c' : Array Value} : ((V.alloc (.cells c tRe)).setRow w.heap.size c').heap[V.heap.size]? = some (.cells c tRe (0, 0)) ∧ w.heap.size + 2 ≤ V.heap.size := by
  have h1 := (Array.getElem?_eq_some_iff.1 h.n).1
  have h2 := (Array.getElem?_eq_some_iff.1 h.z).1
  exact ⟨by rw [setRow_other _ _ _ _ (by omega)]; exact heap_alloc_new V _, by omega⟩
def TqPost (rb : Nat) (s : ByteArray) (j : Nat) (c : Array Value) (l m : Int) (w : World) (e : Ending) (w' : World) : Prop :=
  ∃ g, e = .returned (.agg (reC 4 noV (.slice (some ⟨g, 0, none⟩) 1 1) l m)) ∧ w.heap.size ≤ g ∧ w'.heap[g]? = some (.cells c tRe (0, 0)) ∧ RS rb s j true w' ∧ Kp (· = rb) w w'
theorem Hd.no63 {r : List UInt8} (h : Hd r) : List.isPrefixOf [UInt8.ofNat 63] r = false := by
  rcases h with rfl | ⟨d, r', rfl, hd1, _, _, h63, _⟩
  · rfl
  · exact pre_no (l := []) (r := r') (of_ne (n := 63) hd1 (by omega) h63)
theorem times_star (rb : Nat) (s : ByteArray) (i : Nat) (r : List UInt8) (c : Array Value) (w : World) (h : RS rb s i true w) (hs : s.size ≤ 4611686018427387904) (hr : Rm s i (UInt8.ofNat 42 :: r)) (hd : Hd r) (hc : c.size = 132) (h1 : oneC c.toList) :
    Calls Tryz.prog 33 #[.pointer (some ⟨rb, 0, none⟩), .agg c] w (TqPost rb s (i + 1) c 0 (-1) w) := by
  have hz := zeroRe
  have hsz := hr.size
  have hsz2 := hr.tail.size
  have HT := Lib.hid (Tm.start (c := c) h)
  obtain ⟨V, hV⟩ : ∃ V, (w.alloc (.cells c tRe)).alloc (.cells reZ tRe) = V := ⟨_, rfl⟩
  rw [hV] at HT
  have HVe := Lib.hid hV
  have HC := Lib.hid hc
  have H1 := Lib.hid h1
  have hm : decide ((i : Int) < (s.size : Int)) = true := by simp at hsz ⊢; omega
  have HM := Lib.hid (more_any rb s i true)
  rw [hm] at HM
  have HR := Lib.hid hr
  have HR2 := Lib.hid hr.tail
  have N63 := Lib.hid hd.no63
  have HD := Lib.hid hd
  obtain ⟨v0, v1, v2, _, _, _⟩ := HT.out.r.cells
  clear hr hc h1 hm h hV hd
  go_enter Tryz.func33, Tryz.ntmps33
  go_wp2
  refine wp_loop_rounds 2 ?_
  rw [rounds_succ]
  go_wp2_with fail
  rw [HVe.out]
  refine (HM.out _ HT.out.r).mono ?_
  rintro e w1 ⟨rfl, n, rfl⟩
  go_wp2_with fail
  refine (skip_t rb s ⟨#[42]⟩ i true _ _ (HT.out.r.drew _) hs HR.out).mono ?_
  rintro e w1 ⟨rfl, hr1, hk1⟩
  have HT1 : Hid (Tm rb s (i + 1) c w w1) := Lib.hid ((HT.out.drew _).call hr1 hk1)
  clear hr1 hk1
  go_wp2_with fail
  refine (skip_f rb s _ (i + 1) true _ _ HT1.out.r hs (by decide) HR2.out N63.out).mono ?_
  rintro e w2 ⟨rfl, n2, rfl⟩
  have HT2 : Hid (Tm rb s (i + 1) c w (w1.drewN n2)) := Lib.hid (HT1.out.drew n2)
  obtain ⟨V2, hV2⟩ : ∃ V2, w1.drewN n2 = V2 := ⟨_, rfl⟩
  rw [hV2] at HT2
  rw [hV2]
  clear hV2
  go_upto_region 23 with fail
  refine wp_region_list ?_
  refine wpList_load_row rfl tRe _ rfl w.heap.size rfl tRe c (0, 0) _ HT2.out.n Tryz.underlying31 rfl (by rw [sizeRe, HC.out]) ?_
  refine wpList_plain rfl fun K2 hK2 => ?_
  refine wp_bs _ _ _ _ _ _ _ _ _ _ c rfl HC.out ?_
  refine hK2 _ _ ?_
  clear hK2
  go_wp2
  have hb2 : Below V2.heap.size V2 (V2.alloc (.cells c tRe)) := (Below.refl _ _).alloc (Nat.le_refl _) _
  have hnc : (V2.alloc (.cells c tRe)).heap[w.heap.size]? = some (.cells c tRe (0, 0)) := by rw [Lib.alloc_old _ _ _ (Array.getElem?_eq_some_iff.1 HT2.out.n).1]; exact HT2.out.n
  rw [storeRe _ w.heap.size c ((((reZ.toList.set 0 (.int .i64 4)).set 129 (.slice (some ⟨V2.heap.size, 0, none⟩) 1 1)).set 130 (.int .i64 0)).set 131 (.int .i64 (-1))) hnc HC.out rfl (oneC_reT _ rfl _ _), reT_eq]
  obtain ⟨V3, hV3⟩ : ∃ V3, (V2.alloc (.cells c tRe)).setRow w.heap.size (reC 4 noV (.slice (some ⟨V2.heap.size, 0, none⟩) 1 1) 0 (-1)) = V3 := ⟨_, rfl⟩
  have HT3 : Hid (Tm rb s (i + 1) (reC 4 noV (.slice (some ⟨V2.heap.size, 0, none⟩) 1 1) 0 (-1)) w V3) := Lib.hid (by rw [← hV3]; exact HT2.out.quant)
  have hg3 : Hid (V3.heap[V2.heap.size]? = some (.cells c tRe (0, 0)) ∧ w.heap.size + 2 ≤ V2.heap.size) := Lib.hid (by rw [← hV3]; exact HT2.out.row)
  rw [hV3]
  have HC3 : Hid ((reC 4 noV (.slice (some ⟨V2.heap.size, 0, none⟩) 1 1) 0 (-1)).size = 132) := Lib.hid rfl
  have H13 : Hid (oneC (reC 4 noV (.slice (some ⟨V2.heap.size, 0, none⟩) 1 1) 0 (-1)).toList) := Lib.hid (oneC_reC oneC_no rfl)
  obtain ⟨g, hg⟩ : ∃ g, V2.heap.size = g := ⟨_, rfl⟩
  rw [hg] at HT3 hg3 HC3 H13
  obtain ⟨c3, hc3⟩ : ∃ c3, reC 4 noV (.slice (some ⟨g, 0, none⟩) 1 1) 0 (-1) = c3 := ⟨_, rfl⟩
  rw [hc3] at HT3 HC3 H13
  have hc3' := Lib.hid hc3
  clear hV3 hb2 hnc hc3 v0 v1 v2
  have HM2 := Lib.hid (more_any rb s (i + 1) true)
  clear hg
  go_wp2_with fail
  rw [rounds_succ]
  go_wp2_with fail
  rcases HD.out with rfl | ⟨d, r', rfl, hd1, h42, h43, h63, h123⟩
  · have hm : decide (((i + 1 : Nat) : Int) < (s.size : Int)) = false := by simp at hsz2 ⊢; omega
    rw [hm] at HM2
    clear hm hsz hsz2
    refine (HM2.out _ HT3.out.r).mono ?_
    rintro e w4 ⟨rfl, n4, rfl⟩
    go_upto_region 24 with fail
    refine wp_region_list ?_
    refine wpList_load_row rfl tRe _ rfl w.heap.size rfl tRe c3 (0, 0) _ (HT3.out.drew _).n Tryz.underlying31 rfl (by rw [sizeRe, HC3.out]) ?_
    go_wp2
    rw [storeRe _ (w.heap.size + 1) reZ _ (HT3.out.drew _).z rfl (by rw [Array.length_toList, HC3.out]) H13.out]
    go_wp2
    exact Tm.done (HT3.out.drew _) HC3.out rfl (fun w' a b kk => ⟨g, by rw [hc3'.out], by have := hg3.out.2; omega, kk.heap (by have := hg3.out.2; show ¬ _ = g; omega) hg3.out.1, a, b⟩)
  · have hm : decide (((i + 1 : Nat) : Int) < (s.size : Int)) = true := by simp at hsz2 ⊢; omega
    rw [hm] at HM2
    have Q42 := Lib.hid (pre_no (l := []) (r := r') (of_ne (n := 42) hd1 (by omega) h42))
    have Q43 := Lib.hid (pre_no (l := []) (r := r') (of_ne (n := 43) hd1 (by omega) h43))
    have Q63 := Lib.hid (pre_no (l := []) (r := r') (of_ne (n := 63) hd1 (by omega) h63))
    have Q123 := Lib.hid (pre_no (l := []) (r := r') (of_ne (n := 123) hd1 (by omega) h123))
    obtain ⟨x0, x1, x2, _, _, _⟩ := HT3.out.r.cells
    clear hm hsz hsz2
    refine (HM2.out _ HT3.out.r).mono ?_
    rintro e w4 ⟨rfl, n4, rfl⟩
    go_upto_region 6 with (go_at_call 32; refine (skip_f rb s _ (i + 1) true _ _ (by exact HT3.out.r.drew _) hs (by decide) HR2.out (by first | exact Q42.out | exact Q43.out | exact Q63.out | exact Q123.out)).mono ?_; rintro e w' ⟨rfl, m, rfl⟩)
    refine wp_region_list ?_
    refine wpList_load_row rfl tRe _ rfl w.heap.size rfl tRe c3 (0, 0) _ (HT3.out.drew _).n Tryz.underlying31 rfl (by rw [sizeRe, HC3.out]) ?_
    go_wp2
    rw [storeRe _ (w.heap.size + 1) reZ _ (HT3.out.drew _).z rfl (by rw [Array.length_toList, HC3.out]) H13.out]
    go_wp2
    exact Tm.done (HT3.out.drew _) HC3.out rfl (fun w' a b kk => ⟨g, by rw [hc3'.out], by have := hg3.out.2; omega, kk.heap (by have := hg3.out.2; show ¬ _ = g; omega) hg3.out.1, a, b⟩)
theorem times_plus (rb : Nat) (s : ByteArray) (i : Nat) (r : List UInt8) (c : Array Value) (w : World) (h : RS rb s i true w) (hs : s.size ≤ 4611686018427387904) (hr : Rm s i (UInt8.ofNat 43 :: r)) (hd : Hd r) (hc : c.size = 132) (h1 : oneC c.toList) :
    Calls Tryz.prog 33 #[.pointer (some ⟨rb, 0, none⟩), .agg c] w (TqPost rb s (i + 1) c 1 (-1) w) := by
  have hz := zeroRe
  have hsz := hr.size
  have hsz2 := hr.tail.size
  have HT := Lib.hid (Tm.start (c := c) h)
  obtain ⟨V, hV⟩ : ∃ V, (w.alloc (.cells c tRe)).alloc (.cells reZ tRe) = V := ⟨_, rfl⟩
  rw [hV] at HT
  have HVe := Lib.hid hV
  have HC := Lib.hid hc
  have H1 := Lib.hid h1
  have hm : decide ((i : Int) < (s.size : Int)) = true := by simp at hsz ⊢; omega
  have HM := Lib.hid (more_any rb s i true)
  rw [hm] at HM
  have HR := Lib.hid hr
  have HR2 := Lib.hid hr.tail
  have N63 := Lib.hid hd.no63
  have HD := Lib.hid hd
  obtain ⟨v0, v1, v2, _, _, _⟩ := HT.out.r.cells
  have P42 := Lib.hid (pre_no (l := []) (r := r) (c := UInt8.ofNat 43) (d := UInt8.ofNat 42) (by decide))
  clear hr hc h1 hm h hV hd
  go_enter Tryz.func33, Tryz.ntmps33
  go_wp2
  refine wp_loop_rounds 2 ?_
  rw [rounds_succ]
  go_wp2_with fail
  rw [HVe.out]
  refine (HM.out _ HT.out.r).mono ?_
  rintro e w1 ⟨rfl, n, rfl⟩
  go_wp2_with fail
  refine (skip_f rb s _ i true _ _ (HT.out.r.drew _) hs (by decide) HR.out P42.out).mono ?_
  rintro e w' ⟨rfl, m, rfl⟩
  go_wp2_with fail
  refine (skip_t rb s ⟨#[43]⟩ i true _ _ (HT.out.r.drew _) hs HR.out).mono ?_
  rintro e w1 ⟨rfl, hr1, hk1⟩
  have HT1 : Hid (Tm rb s (i + 1) c w w1) := Lib.hid ((HT.out.drew _).call hr1 hk1)
  clear hr1 hk1
  go_wp2_with fail
  refine (skip_f rb s _ (i + 1) true _ _ HT1.out.r hs (by decide) HR2.out N63.out).mono ?_
  rintro e w2 ⟨rfl, n2, rfl⟩
  have HT2 : Hid (Tm rb s (i + 1) c w (w1.drewN n2)) := Lib.hid (HT1.out.drew n2)
  obtain ⟨V2, hV2⟩ : ∃ V2, w1.drewN n2 = V2 := ⟨_, rfl⟩
  rw [hV2] at HT2
  rw [hV2]
  clear hV2
  go_upto_region 23 with fail
  refine wp_region_list ?_
  refine wpList_load_row rfl tRe _ rfl w.heap.size rfl tRe c (0, 0) _ HT2.out.n Tryz.underlying31 rfl (by rw [sizeRe, HC.out]) ?_
  refine wpList_plain rfl fun K2 hK2 => ?_
  refine wp_bs _ _ _ _ _ _ _ _ _ _ c rfl HC.out ?_
  refine hK2 _ _ ?_
  clear hK2
  go_wp2
  have hb2 : Below V2.heap.size V2 (V2.alloc (.cells c tRe)) := (Below.refl _ _).alloc (Nat.le_refl _) _
  have hnc : (V2.alloc (.cells c tRe)).heap[w.heap.size]? = some (.cells c tRe (0, 0)) := by rw [Lib.alloc_old _ _ _ (Array.getElem?_eq_some_iff.1 HT2.out.n).1]; exact HT2.out.n
  rw [storeRe _ w.heap.size c ((((reZ.toList.set 0 (.int .i64 4)).set 129 (.slice (some ⟨V2.heap.size, 0, none⟩) 1 1)).set 130 (.int .i64 1)).set 131 (.int .i64 (-1))) hnc HC.out rfl (oneC_reT _ rfl _ _), reT_eq]
  obtain ⟨V3, hV3⟩ : ∃ V3, (V2.alloc (.cells c tRe)).setRow w.heap.size (reC 4 noV (.slice (some ⟨V2.heap.size, 0, none⟩) 1 1) 1 (-1)) = V3 := ⟨_, rfl⟩
  have HT3 : Hid (Tm rb s (i + 1) (reC 4 noV (.slice (some ⟨V2.heap.size, 0, none⟩) 1 1) 1 (-1)) w V3) := Lib.hid (by rw [← hV3]; exact HT2.out.quant)
  have hg3 : Hid (V3.heap[V2.heap.size]? = some (.cells c tRe (0, 0)) ∧ w.heap.size + 2 ≤ V2.heap.size) := Lib.hid (by rw [← hV3]; exact HT2.out.row)
  rw [hV3]
  have HC3 : Hid ((reC 4 noV (.slice (some ⟨V2.heap.size, 0, none⟩) 1 1) 1 (-1)).size = 132) := Lib.hid rfl
  have H13 : Hid (oneC (reC 4 noV (.slice (some ⟨V2.heap.size, 0, none⟩) 1 1) 1 (-1)).toList) := Lib.hid (oneC_reC oneC_no rfl)
  obtain ⟨g, hg⟩ : ∃ g, V2.heap.size = g := ⟨_, rfl⟩
  rw [hg] at HT3 hg3 HC3 H13
  obtain ⟨c3, hc3⟩ : ∃ c3, reC 4 noV (.slice (some ⟨g, 0, none⟩) 1 1) 1 (-1) = c3 := ⟨_, rfl⟩
  rw [hc3] at HT3 HC3 H13
  have hc3' := Lib.hid hc3
  clear hV3 hb2 hnc hc3 v0 v1 v2
  have HM2 := Lib.hid (more_any rb s (i + 1) true)
  clear hg
  go_wp2_with fail
  rw [rounds_succ]
  go_wp2_with fail
  rcases HD.out with rfl | ⟨d, r', rfl, hd1, h42, h43, h63, h123⟩
  · have hm : decide (((i + 1 : Nat) : Int) < (s.size : Int)) = false := by simp at hsz2 ⊢; omega
    rw [hm] at HM2
    clear hm hsz hsz2
    refine (HM2.out _ HT3.out.r).mono ?_
    rintro e w4 ⟨rfl, n4, rfl⟩
    go_upto_region 24 with fail
    refine wp_region_list ?_
    refine wpList_load_row rfl tRe _ rfl w.heap.size rfl tRe c3 (0, 0) _ (HT3.out.drew _).n Tryz.underlying31 rfl (by rw [sizeRe, HC3.out]) ?_
    go_wp2
    rw [storeRe _ (w.heap.size + 1) reZ _ (HT3.out.drew _).z rfl (by rw [Array.length_toList, HC3.out]) H13.out]
    go_wp2
    exact Tm.done (HT3.out.drew _) HC3.out rfl (fun w' a b kk => ⟨g, by rw [hc3'.out], by have := hg3.out.2; omega, kk.heap (by have := hg3.out.2; show ¬ _ = g; omega) hg3.out.1, a, b⟩)
  · have hm : decide (((i + 1 : Nat) : Int) < (s.size : Int)) = true := by simp at hsz2 ⊢; omega
    rw [hm] at HM2
    have Q42 := Lib.hid (pre_no (l := []) (r := r') (of_ne (n := 42) hd1 (by omega) h42))
    have Q43 := Lib.hid (pre_no (l := []) (r := r') (of_ne (n := 43) hd1 (by omega) h43))
    have Q63 := Lib.hid (pre_no (l := []) (r := r') (of_ne (n := 63) hd1 (by omega) h63))
    have Q123 := Lib.hid (pre_no (l := []) (r := r') (of_ne (n := 123) hd1 (by omega) h123))
    obtain ⟨x0, x1, x2, _, _, _⟩ := HT3.out.r.cells
    clear hm hsz hsz2
    refine (HM2.out _ HT3.out.r).mono ?_
    rintro e w4 ⟨rfl, n4, rfl⟩
    go_upto_region 6 with (go_at_call 32; refine (skip_f rb s _ (i + 1) true _ _ (by exact HT3.out.r.drew _) hs (by decide) HR2.out (by first | exact Q42.out | exact Q43.out | exact Q63.out | exact Q123.out)).mono ?_; rintro e w' ⟨rfl, m, rfl⟩)
    refine wp_region_list ?_
    refine wpList_load_row rfl tRe _ rfl w.heap.size rfl tRe c3 (0, 0) _ (HT3.out.drew _).n Tryz.underlying31 rfl (by rw [sizeRe, HC3.out]) ?_
    go_wp2
    rw [storeRe _ (w.heap.size + 1) reZ _ (HT3.out.drew _).z rfl (by rw [Array.length_toList, HC3.out]) H13.out]
    go_wp2
    exact Tm.done (HT3.out.drew _) HC3.out rfl (fun w' a b kk => ⟨g, by rw [hc3'.out], by have := hg3.out.2; omega, kk.heap (by have := hg3.out.2; show ¬ _ = g; omega) hg3.out.1, a, b⟩)
theorem times_opt (rb : Nat) (s : ByteArray) (i : Nat) (r : List UInt8) (c : Array Value) (w : World) (h : RS rb s i true w) (hs : s.size ≤ 4611686018427387904) (hr : Rm s i (UInt8.ofNat 63 :: r)) (hd : Hd r) (hc : c.size = 132) (h1 : oneC c.toList) :
    Calls Tryz.prog 33 #[.pointer (some ⟨rb, 0, none⟩), .agg c] w (TqPost rb s (i + 1) c 0 1 w) := by
  have hz := zeroRe
  have hsz := hr.size
  have hsz2 := hr.tail.size
  have HT := Lib.hid (Tm.start (c := c) h)
  obtain ⟨V, hV⟩ : ∃ V, (w.alloc (.cells c tRe)).alloc (.cells reZ tRe) = V := ⟨_, rfl⟩
  rw [hV] at HT
  have HVe := Lib.hid hV
  have HC := Lib.hid hc
  have H1 := Lib.hid h1
  have hm : decide ((i : Int) < (s.size : Int)) = true := by simp at hsz ⊢; omega
  have HM := Lib.hid (more_any rb s i true)
  rw [hm] at HM
  have HR := Lib.hid hr
  have HR2 := Lib.hid hr.tail
  have N63 := Lib.hid hd.no63
  have HD := Lib.hid hd
  obtain ⟨v0, v1, v2, _, _, _⟩ := HT.out.r.cells
  have P42 := Lib.hid (pre_no (l := []) (r := r) (c := UInt8.ofNat 63) (d := UInt8.ofNat 42) (by decide))
  have P43 := Lib.hid (pre_no (l := []) (r := r) (c := UInt8.ofNat 63) (d := UInt8.ofNat 43) (by decide))
  clear hr hc h1 hm h hV hd
  go_enter Tryz.func33, Tryz.ntmps33
  go_wp2
  refine wp_loop_rounds 2 ?_
  rw [rounds_succ]
  go_wp2_with fail
  rw [HVe.out]
  refine (HM.out _ HT.out.r).mono ?_
  rintro e w1 ⟨rfl, n, rfl⟩
  go_wp2_with fail
  refine (skip_f rb s _ i true _ _ (HT.out.r.drew _) hs (by decide) HR.out P42.out).mono ?_
  rintro e w' ⟨rfl, m, rfl⟩
  go_wp2_with fail
  refine (skip_f rb s _ i true _ _ (HT.out.r.drew _) hs (by decide) HR.out P43.out).mono ?_
  rintro e w' ⟨rfl, m, rfl⟩
  go_wp2_with fail
  refine (skip_t rb s ⟨#[63]⟩ i true _ _ (HT.out.r.drew _) hs HR.out).mono ?_
  rintro e w1 ⟨rfl, hr1, hk1⟩
  have HT1 : Hid (Tm rb s (i + 1) c w w1) := Lib.hid ((HT.out.drew _).call hr1 hk1)
  clear hr1 hk1
  go_wp2_with fail
  refine (skip_f rb s _ (i + 1) true _ _ HT1.out.r hs (by decide) HR2.out N63.out).mono ?_
  rintro e w2 ⟨rfl, n2, rfl⟩
  have HT2 : Hid (Tm rb s (i + 1) c w (w1.drewN n2)) := Lib.hid (HT1.out.drew n2)
  obtain ⟨V2, hV2⟩ : ∃ V2, w1.drewN n2 = V2 := ⟨_, rfl⟩
  rw [hV2] at HT2
  rw [hV2]
  clear hV2
  go_upto_region 23 with fail
  refine wp_region_list ?_
  refine wpList_load_row rfl tRe _ rfl w.heap.size rfl tRe c (0, 0) _ HT2.out.n Tryz.underlying31 rfl (by rw [sizeRe, HC.out]) ?_
  refine wpList_plain rfl fun K2 hK2 => ?_
  refine wp_bs _ _ _ _ _ _ _ _ _ _ c rfl HC.out ?_
  refine hK2 _ _ ?_
  clear hK2
  go_wp2
  have hb2 : Below V2.heap.size V2 (V2.alloc (.cells c tRe)) := (Below.refl _ _).alloc (Nat.le_refl _) _
  have hnc : (V2.alloc (.cells c tRe)).heap[w.heap.size]? = some (.cells c tRe (0, 0)) := by rw [Lib.alloc_old _ _ _ (Array.getElem?_eq_some_iff.1 HT2.out.n).1]; exact HT2.out.n
  rw [storeRe _ w.heap.size c ((((reZ.toList.set 0 (.int .i64 4)).set 129 (.slice (some ⟨V2.heap.size, 0, none⟩) 1 1)).set 130 (.int .i64 0)).set 131 (.int .i64 1)) hnc HC.out rfl (oneC_reT _ rfl _ _), reT_eq]
  obtain ⟨V3, hV3⟩ : ∃ V3, (V2.alloc (.cells c tRe)).setRow w.heap.size (reC 4 noV (.slice (some ⟨V2.heap.size, 0, none⟩) 1 1) 0 1) = V3 := ⟨_, rfl⟩
  have HT3 : Hid (Tm rb s (i + 1) (reC 4 noV (.slice (some ⟨V2.heap.size, 0, none⟩) 1 1) 0 1) w V3) := Lib.hid (by rw [← hV3]; exact HT2.out.quant)
  have hg3 : Hid (V3.heap[V2.heap.size]? = some (.cells c tRe (0, 0)) ∧ w.heap.size + 2 ≤ V2.heap.size) := Lib.hid (by rw [← hV3]; exact HT2.out.row)
  rw [hV3]
  have HC3 : Hid ((reC 4 noV (.slice (some ⟨V2.heap.size, 0, none⟩) 1 1) 0 1).size = 132) := Lib.hid rfl
  have H13 : Hid (oneC (reC 4 noV (.slice (some ⟨V2.heap.size, 0, none⟩) 1 1) 0 1).toList) := Lib.hid (oneC_reC oneC_no rfl)
  obtain ⟨g, hg⟩ : ∃ g, V2.heap.size = g := ⟨_, rfl⟩
  rw [hg] at HT3 hg3 HC3 H13
  obtain ⟨c3, hc3⟩ : ∃ c3, reC 4 noV (.slice (some ⟨g, 0, none⟩) 1 1) 0 1 = c3 := ⟨_, rfl⟩
  rw [hc3] at HT3 HC3 H13
  have hc3' := Lib.hid hc3
  clear hV3 hb2 hnc hc3 v0 v1 v2
  have HM2 := Lib.hid (more_any rb s (i + 1) true)
  clear hg
  go_wp2_with fail
  rw [rounds_succ]
  go_wp2_with fail
  rcases HD.out with rfl | ⟨d, r', rfl, hd1, h42, h43, h63, h123⟩
  · have hm : decide (((i + 1 : Nat) : Int) < (s.size : Int)) = false := by simp at hsz2 ⊢; omega
    rw [hm] at HM2
    clear hm hsz hsz2
    refine (HM2.out _ HT3.out.r).mono ?_
    rintro e w4 ⟨rfl, n4, rfl⟩
    go_upto_region 24 with fail
    refine wp_region_list ?_
    refine wpList_load_row rfl tRe _ rfl w.heap.size rfl tRe c3 (0, 0) _ (HT3.out.drew _).n Tryz.underlying31 rfl (by rw [sizeRe, HC3.out]) ?_
    go_wp2
    rw [storeRe _ (w.heap.size + 1) reZ _ (HT3.out.drew _).z rfl (by rw [Array.length_toList, HC3.out]) H13.out]
    go_wp2
    exact Tm.done (HT3.out.drew _) HC3.out rfl (fun w' a b kk => ⟨g, by rw [hc3'.out], by have := hg3.out.2; omega, kk.heap (by have := hg3.out.2; show ¬ _ = g; omega) hg3.out.1, a, b⟩)
  · have hm : decide (((i + 1 : Nat) : Int) < (s.size : Int)) = true := by simp at hsz2 ⊢; omega
    rw [hm] at HM2
    have Q42 := Lib.hid (pre_no (l := []) (r := r') (of_ne (n := 42) hd1 (by omega) h42))
    have Q43 := Lib.hid (pre_no (l := []) (r := r') (of_ne (n := 43) hd1 (by omega) h43))
    have Q63 := Lib.hid (pre_no (l := []) (r := r') (of_ne (n := 63) hd1 (by omega) h63))
    have Q123 := Lib.hid (pre_no (l := []) (r := r') (of_ne (n := 123) hd1 (by omega) h123))
    obtain ⟨x0, x1, x2, _, _, _⟩ := HT3.out.r.cells
    clear hm hsz hsz2
    refine (HM2.out _ HT3.out.r).mono ?_
    rintro e w4 ⟨rfl, n4, rfl⟩
    go_upto_region 6 with (go_at_call 32; refine (skip_f rb s _ (i + 1) true _ _ (by exact HT3.out.r.drew _) hs (by decide) HR2.out (by first | exact Q42.out | exact Q43.out | exact Q63.out | exact Q123.out)).mono ?_; rintro e w' ⟨rfl, m, rfl⟩)
    refine wp_region_list ?_
    refine wpList_load_row rfl tRe _ rfl w.heap.size rfl tRe c3 (0, 0) _ (HT3.out.drew _).n Tryz.underlying31 rfl (by rw [sizeRe, HC3.out]) ?_
    go_wp2
    rw [storeRe _ (w.heap.size + 1) reZ _ (HT3.out.drew _).z rfl (by rw [Array.length_toList, HC3.out]) H13.out]
    go_wp2
    exact Tm.done (HT3.out.drew _) HC3.out rfl (fun w' a b kk => ⟨g, by rw [hc3'.out], by have := hg3.out.2; omega, kk.heap (by have := hg3.out.2; show ¬ _ = g; omega) hg3.out.1, a, b⟩)
end Go.Proofs.YtpfgmiocdgfniaaGreatFmt

namespace Go.Proofs.YtpfgmiocdgfniaaGreatFmt
open Go.RowKit
open Re (Fo)
theorem Kp.seq' {X Y : Nat → Prop} {a b c : World} (h : Kp X a b) (k : Kp Y b c) (hXY : ∀ i, i < a.heap.size → ¬ X i → ¬ Y i) : Kp X a c :=
  ⟨k.os.trans h.os, k.tape.trans h.tape, k.output.trans h.output, Nat.le_trans h.size k.size, fun i hi hx => (k.block i (Nat.lt_of_lt_of_le hi h.size) (hXY i hi hx)).trans (h.block i hi hx)⟩
def PA (B fb z ob g1 : Nat) (lv : Value) (g : Nat) : Prop := B ≤ g ∧ g ≠ g1 ∧ g ≠ ob ∧ g ≠ z ∧ g ≠ fb ∧ lv.ownBlock ≠ some g
structure AL (B rb fb z ob g1 c1 : Nat) (lv : Value) (r1 : Array Value) (aa ks : List Value) (s : ByteArray) (j : Nat) (fold dot : Bool) (A K : Fo) (w0 w : World) : Prop where
  r : RS rb s j true w
  f : FS fb fold dot w
  hz : w.heap[z]? = some (.cells reZ tRe (0, 0))
  ho : w.heap[ob]? = some (.cells (reC 3 noV (.slice (some ⟨g1, 0, none⟩) (A.len + 1) c1) 0 0) tRe (0, 0))
  k : Kp (· = rb) w0 w
  row : w.heap[g1]? = some (.cells r1 tRe (0, 0))
  own : w.ownsRow B tRe 132 (.slice (some ⟨g1, 0, none⟩) (A.len + 1) c1) (A.len + 1) (aa ++ (reC 2 noV lv 0 0).toList)
  ol : w.ownsRow B tRe 132 lv K.len ks
  fa : FoC (PA B fb z ob g1 lv) w A aa
  fk : FoC (PA B fb z ob g1 lv) w K ks
  sg : g1 ≠ ob ∧ g1 ≠ z ∧ g1 ≠ fb
  sl : ∀ p, lv.ownBlock = some p → p ≠ g1 ∧ p ≠ ob ∧ p ≠ z ∧ p ≠ fb
  sb : rb < B ∧ B ≤ fb ∧ B ≤ z ∧ B ≤ ob ∧ w0.heap.size = B
  ne : z ≠ ob
theorem ownsRow_form {w : World} {B : Nat} {e : TypeId} {sz n : Nat} {lv : Value} {ks : List Value} (h : w.ownsRow B e sz lv n ks) : ∃ la lc, lv = .slice la n lc ∧ ∀ p, la = some p → B ≤ p.block ∧ p.block < w.heap.size := by
  rcases h.2 with ⟨rfl, rfl⟩ | ⟨g, cap, cur, rfl, hb, hg, _⟩
  · exact ⟨none, 0, rfl, fun p hp => by cases hp⟩
  · exact ⟨_, cap, rfl, fun p hp => by cases hp; exact ⟨hb, (Array.getElem?_eq_some_iff.1 hg).1⟩⟩
theorem reC_129 (k : Int) (set : List Value) (kv : Value) (l m : Int) (h : set.length = 128) : (reC k set kv l m)[129]? = some kv := by
  simp [reC, h]
theorem AL.last {B rb fb z ob g1 c1 : Nat} {lv : Value} {r1 : Array Value} {aa ks : List Value} {s : ByteArray} {j : Nat} {fold dot : Bool} {A K : Fo} {w0 w : World} (h : AL B rb fb z ob g1 c1 lv r1 aa ks s j fold dot A K w0 w) :
    r1.toList.take ((A.len + 1) * 132) = aa ++ (reC 2 noV lv 0 0).toList ∧ aa.length = A.len * 132 ∧ (A.len + 1) * 132 ≤ r1.size ∧ r1[A.len * 132 + 129]? = some lv ∧ B ≤ g1 := by
  have hal := h.fa.length
  rcases h.own.2 with ⟨h0, _⟩ | ⟨g', cap', cur, hv, hb, hg, hc1, hc2, hsz, ht⟩
  · cases h0
  · cases hv
    have e : cur = r1 := by
      have := hg.symm.trans h.row
      simp only [Option.some.injEq, Obj.cells.injEq, and_true] at this
      exact this
    subst e
    have hs : (A.len + 1) * 132 ≤ cur.size := by rw [hsz]; exact Nat.mul_le_mul_right 132 hc1
    refine ⟨ht, hal, hs, ?_, hb⟩
    have h1 : (cur.toList.take ((A.len + 1) * 132))[A.len * 132 + 129]? = some lv := by
      rw [ht, List.getElem?_append_right (by omega), hal, show A.len * 132 + 129 - A.len * 132 = 129 from by omega]
      have := reC_129 2 noV lv 0 0 rfl
      rw [← this]; simp
    rw [List.getElem?_take_of_lt (by omega)] at h1
    simpa using h1
theorem set129 (aa : List Value) (lv nv : Value) (n : Nat) (h : aa.length = n) : (aa ++ (reC 2 noV lv 0 0).toList).set (n + 129) nv = aa ++ (reC 2 noV nv 0 0).toList := by
  rw [List.set_append_right _ _ (by omega), h, show n + 129 - n = 129 from by omega]
  rfl
theorem AL.item {B rb fb z ob g1 c1 g cap lc : Nat} {la : Option Addr} {r1 c' : Array Value} {aa ks : List Value} {s : ByteArray} {j j2 : Nat} {fold dot f2 d2 : Bool} {A K : Fo} {w0 w W w4 : World} {k : Nat} {set : List Bool} {kids : Fo} {l m : Int}
    (h : AL B rb fb z ob g1 c1 (.slice la K.len lc) r1 aa ks s j fold dot A K w0 w) (hn : Nd (fun g => w.heap.size ≤ g) W k set kids l m c') (hr : RS rb s j2 true W) (hf : FS fb f2 d2 W) (hk : Kp (XR rb fb) w W)
    (h4 : A4 W w4 B g1 (A.len * 132) g K.len cap la ks c' r1) :
    AL B rb fb z ob g1 c1 (.slice (some ⟨g, 0, none⟩) (K.len + 1) cap) (r1.setIfInBounds (A.len * 132 + 129) (.slice (some ⟨g, 0, none⟩) (K.len + 1) cap)) aa (ks ++ c'.toList) s j2 f2 d2 A (K.app (.cons k set kids l m .nil)) w0 w4 := by
  obtain ⟨hl1, hl2, hl3, hl4, hbg⟩ := h.last
  obtain ⟨sb1, sb2, sb3, sb4, sb5⟩ := h.sb
  have hlt := h.k.size
  have szk := hk.size
  have g1lt : g1 < w.heap.size := (Array.getElem?_eq_some_iff.1 h.row).1
  have zlt : z < w.heap.size := (Array.getElem?_eq_some_iff.1 h.hz).1
  have olt : ob < w.heap.size := (Array.getElem?_eq_some_iff.1 h.ho).1
  have flt : fb < w.heap.size := (Array.getElem?_eq_some_iff.1 h.f).1
  have hzf : z ≠ fb := blk_ne h.hz h.f (by decide)
  have hof : ob ≠ fb := blk_ne h.ho h.f (by decide)
  have hxr : ∀ x, B ≤ x → x ≠ fb → ¬ XR rb fb x := fun x hx hne => by rintro (e | e) <;> omega
  have hown : ∀ p, la = some p → B ≤ p.block ∧ p.block < w.heap.size := by
    obtain ⟨la', lc', e, hh⟩ := ownsRow_form h.ol
    cases e; exact hh
  have hsl : ∀ x, la.map (·.block) = some x → x ≠ g1 ∧ x ≠ ob ∧ x ≠ z ∧ x ≠ fb ∧ B ≤ x ∧ x < w.heap.size := by
    intro x hx
    cases la with
    | none => cases hx
    | some p =>
      have e : p.block = x := by simpa using hx
      subst e
      obtain ⟨a1, a2, a3, a4⟩ := h.sl p.block rfl
      exact ⟨a1, a2, a3, a4, hown p rfl⟩
  have k4 := h4.kp
  have far : ∀ x, x ≠ g1 → la.map (·.block) ≠ some x → ¬ (x = g1 ∨ la.map (·.block) = some x) := fun x a b c => c.elim a b
  have hgs : g ≠ ob ∧ g ≠ z ∧ g ≠ fb ∧ B ≤ g := by
    rcases h4.hat with e | e
    · obtain ⟨a1, a2, a3, a4, a5, a6⟩ := hsl g e; exact ⟨a2, a3, a4, a5⟩
    · omega
  have tr : ∀ x, la.map (·.block) ≠ some x → (Value.slice la K.len lc).ownBlock ≠ some x := fun x hx => by rw [ownBlock_slice]; exact hx
  have tr2 : ∀ x, (Value.slice la K.len lc).ownBlock ≠ some x → la.map (·.block) ≠ some x := fun x hx => by rw [ownBlock_slice] at hx; exact hx
  -- finished nodes are kept
  have keepA : ∀ {F : Fo} {xs : List Value}, FoC (PA B fb z ob g1 (.slice la K.len lc)) w F xs → FoC (PA B fb z ob g1 (.slice (some ⟨g, 0, none⟩) (K.len + 1) cap)) w4 F xs := by
    intro F xs hF
    have h1 : FoC (PA B fb z ob g1 (.slice la K.len lc)) W F xs := hF.kept hk (fun x hx => hxr x hx.1 hx.2.2.2.2.1)
    have h1' : FoC (fun x => PA B fb z ob g1 (.slice la K.len lc) x ∧ x < w.heap.size) w F xs := hF.mono (fun x hx hl => ⟨hx, hl⟩)
    have h2 : FoC (fun x => PA B fb z ob g1 (.slice la K.len lc) x ∧ x < w.heap.size) W F xs := h1'.kept hk (fun x hx => hxr x hx.1.1 hx.1.2.2.2.2.1)
    have h3 := h2.kept k4 (fun x hx => far x hx.1.2.1 (tr2 x hx.1.2.2.2.2.2))
    refine h3.mono (fun x hx _ => ⟨hx.1.1, hx.1.2.1, hx.1.2.2.1, hx.1.2.2.2.1, hx.1.2.2.2.2.1, ?_⟩)
    intro e
    have e : g = x := by simpa [Value.ownBlock] using e
    subst e
    rcases h4.hat with e | e
    · exact tr2 g hx.1.2.2.2.2.2 e
    · omega
  have nd : FoC (PA B fb z ob g1 (.slice (some ⟨g, 0, none⟩) (K.len + 1) cap)) w4 (.cons k set kids l m .nil) c'.toList := by
    have h1 : FoC (fun x => w.heap.size ≤ x ∧ x < W.heap.size) W _ _ := hn.foC.mono (fun x hx hl => ⟨hx, hl⟩)
    have h2 := h1.kept k4 (fun x hx => far x (by omega) (fun e => by have := (hsl x e).2.2.2.2.2; omega))
    refine h2.mono (fun x hx _ => ⟨by omega, by omega, by omega, by omega, by omega, ?_⟩)
    intro e
    have e : g = x := by simpa [Value.ownBlock] using e
    subst e
    rcases h4.hat with e | e
    · have := (hsl g e).2.2.2.2.2; omega
    · omega
  have krb : rb < w.heap.size := by omega
  refine ⟨?_, ?_, ?_, ?_, ?_, h4.row, ?_, ?_, keepA h.fa, (keepA h.fk).app nd, h.sg, ?_, h.sb, h.ne⟩
  · exact hr.kept k4 (far rb (by omega) (fun e => by have := (hsl rb e).2.2.2.2.1; omega))
  · exact k4.heap (far fb (fun e => h.sg.2.2 e.symm) (fun e => (hsl fb e).2.2.2.1 rfl)) hf
  · exact k4.heap (far z (fun e => h.sg.2.1 e.symm) (fun e => (hsl z e).2.2.1 rfl)) (hk.heap (hxr z sb3 hzf) h.hz)
  · exact k4.heap (far ob (fun e => h.sg.1 e.symm) (fun e => (hsl ob e).2.1 rfl)) (hk.heap (hxr ob sb4 hof) h.ho)
  · refine (h.k.seq' hk (fun x hx hne => ?_)).seq' k4 (fun x hx hne => far x (by omega) (fun e => by have := (hsl x e).2.2.2.2.1; omega))
    rintro (e | e)
    · exact hne e
    · omega
  · refine ⟨?_, .inr ⟨g1, c1, _, rfl, hbg, h4.row, ?_⟩⟩
    · have := h.own.1; simpa [reC] using this
    · rcases h.own.2 with ⟨h0, _⟩ | ⟨g', cap', cur, hv, hb, hg, hc1, hc2, hsz, ht⟩
      · cases h0
      · cases hv
        have e : cur = r1 := by
          have := hg.symm.trans h.row
          simp only [Option.some.injEq, Obj.cells.injEq, and_true] at this
          exact this
        subst e
        refine ⟨hc1, hc2, by simpa using hsz, ?_⟩
        rw [Array.toList_setIfInBounds, List.take_set, ht, set129 aa _ _ _ hl2]
  · have := h4.own
    rw [Fo.len_app]
    exact this
  · intro p hp
    have e : g = p := by simpa [Value.ownBlock] using hp
    subst e
    exact ⟨h4.ne, hgs.1, hgs.2.1, hgs.2.2.1⟩
end Go.Proofs.YtpfgmiocdgfniaaGreatFmt

namespace Go.Proofs.YtpfgmiocdgfniaaGreatFmt
open Go.RowKit
open Re (Fo)
theorem fold_zip (a c : Array Value) (h : a.size = 132) (hc : c.size = 132) : Array.foldl (fun cs (x : Value × Nat) => cs.setIfInBounds x.2 x.1) a c.zipIdx 0 132 = c := by
  have h1 := fold_zip_list c.toList a [] (by simp [h, hc]) rfl
  have e : c.zipIdx.size = 132 := by simp [hc]
  have h2 : Array.foldl (fun cs (x : Value × Nat) => cs.setIfInBounds x.2 x.1) a c.zipIdx 0 132 = Array.foldl (fun cs (x : Value × Nat) => cs.setIfInBounds x.2 x.1) a c.zipIdx 0 c.zipIdx.size := by rw [e]
  rw [h2, ← Array.foldl_toList, Array.toList_zipIdx]
  simpa using h1
section
variable {B rb fb z ob g1 c1 : Nat} {lv : Value} {r1 : Array Value} {aa ks : List Value} {s : ByteArray} {j : Nat} {fold dot : Bool} {A K : Fo} {w0 w : World}
theorem AL.out (h : AL B rb fb z ob g1 c1 lv r1 aa ks s j fold dot A K w0 w) : w.cell? ⟨ob, 129, none⟩ = some (.slice (some ⟨g1, 0, none⟩) (A.len + 1) c1) ∧ w.frozen? ⟨ob, 129, none⟩ = false ∧ ob < w.heap.size := by
  refine ⟨?_, Lib.frozen_of_heap h.ho _, (Array.getElem?_eq_some_iff.1 h.ho).1⟩
  rw [Lib.cell_of_heap h.ho]; exact reC_129 3 noV _ 0 0 rfl
theorem AL.kept0 {w' : World} (h : AL B rb fb z ob g1 c1 lv r1 aa ks s j fold dot A K w0 w) {j' : Nat} (hr : RS rb s j' true w') (k : Kp (· = rb) w w') : AL B rb fb z ob g1 c1 lv r1 aa ks s j' fold dot A K w0 w' := by
  obtain ⟨sb1, sb2, sb3, sb4, sb5⟩ := h.sb
  obtain ⟨_, _, _, _, hbg⟩ := h.last
  obtain ⟨la, lc, e, hla⟩ := ownsRow_form h.ol
  refine ⟨hr, k.heap (by show ¬ fb = rb; omega) h.f, k.heap (by show ¬ z = rb; omega) h.hz, k.heap (by show ¬ ob = rb; omega) h.ho, h.k.trans k, k.heap (by show ¬ g1 = rb; omega) h.row, ?_, ?_, h.fa.kept k (fun x hx => by have := hx.1; show ¬ x = rb; omega), h.fk.kept k (fun x hx => by have := hx.1; show ¬ x = rb; omega), h.sg, h.sl, h.sb, h.ne⟩
  · exact ownsRow_kept h.own k (by show ¬ g1 = rb; omega)
  · rw [e]; exact ownK (e ▸ h.ol) k (fun p hp => by have := (hla p hp).1; show ¬ p.block = rb; omega)
end
theorem al34_no (rb fb z ob : Nat) (s : ByteArray) (j : Nat) (c : UInt8) (r : List UInt8) (w : World) (Q : Exit → Act → World → Prop) (a : Array Value) (v6 : Value) (hF : AF rb fb z ob a) (h6 : a[6]? = some v6)
    (hr : RS rb s j true w) (hs : s.size ≤ 4611686018427387904) (hm : Rm s j (c :: r)) (hc : UInt8.ofNat 124 ≠ c) (hQ : ∀ n a', AF rb fb z ob a' → a'[6]? = some v6 → Q .normal ⟨a', []⟩ (w.drewN n)) : Code.wp Tryz.prog al34 Q ⟨a, []⟩ w := by
  refine AF.open (C := fun a => Code.wp Tryz.prog al34 Q ⟨a, []⟩ w) hF h6 fun x => ?_
  have HQ := Lib.hid hQ
  have P := Lib.hid (pre_no (l := []) (r := r) hc)
  have HR := Lib.hid hr
  have HM := Lib.hid hm
  clear hQ hF h6 hr hm
  simp only [al34, alI, alL, alB, Tryz.f18, Option.getD_some, lq1, lq2, lbl, llo]
  go_wp2_with fail
  refine (skip_f rb s _ j true _ _ HR.out hs (by decide) HM.out P.out).mono ?_
  rintro e w1 ⟨rfl, n, rfl⟩
  go_wp2_with fail
  exact HQ.out n _ ⟨rfl, rfl, rfl, rfl, rfl⟩ rfl
theorem al5_walk (rb fb z ob g1 c1 n : Nat) (w : World) (Q : Exit → Act → World → Prop) (a : Array Value) (v6 : Value) (hF : AF rb fb z ob a) (h6 : a[6]? = some v6)
    (ho : w.cell? ⟨ob, 129, none⟩ = some (.slice (some ⟨g1, 0, none⟩) (n + 1) c1)) (hn : n ≤ 549755813888) (hQ : ∀ a', AF rb fb z ob a' → a'[6]? = some (.pointer (some ⟨g1, n * 132, none⟩)) → Q .normal ⟨a', []⟩ w) : Code.wp Tryz.prog al5 Q ⟨a, []⟩ w := by
  refine AF.open (C := fun a => Code.wp Tryz.prog al5 Q ⟨a, []⟩ w) hF h6 fun x => ?_
  have HQ := Lib.hid hQ
  have n0 : (0 : Int) ≤ (n : Int) := by omega
  have n1 : (n : Int) < (n : Int) + 1 := by omega
  have nw : ((n + 1 : Nat) : Int) - 1 = (n : Int) := by omega
  have nw2 : (n : Int) + 1 - 1 = (n : Int) := by omega
  clear hQ hF h6
  simp only [al5, alI, alL, alB, Tryz.f18, Option.getD_some, lq1, lq2, lbl, llo]
  go_wp2_with fail
  exact HQ.out _ ⟨rfl, rfl, rfl, rfl, rfl⟩ rfl
theorem al2_end (rb fb z ob : Nat) (s : ByteArray) (j : Nat) (w : World) (Q : Exit → Act → World → Prop) (a : Array Value) (v6 : Value) (hF : AF rb fb z ob a) (h6 : a[6]? = some v6)
    (hr : RS rb s j true w) (hm : Rm s j []) (hQ : ∀ n a', AF rb fb z ob a' → Q (.exit 0) ⟨a', []⟩ (w.drewN n)) : Code.wp Tryz.prog al2 Q ⟨a, []⟩ w := by
  refine AF.open (C := fun a => Code.wp Tryz.prog al2 Q ⟨a, []⟩ w) hF h6 fun x => ?_
  have hsz := hm.size
  have hlt : decide ((j : Int) < (s.size : Int)) = false := by simp at hsz ⊢; omega
  have HM : Hid (∀ w, RS rb s j true w → Calls Tryz.prog 31 #[.pointer (some ⟨rb, 0, none⟩)] w fun e w' => e = .returned (.bool false) ∧ ∃ n, w' = w.drewN n) := Lib.hid fun w h => by
    have := more_any rb s j true w h
    rw [hlt] at this
    exact this
  have HQ := Lib.hid hQ
  have HR := Lib.hid hr
  clear hQ hF h6 hr hm hsz hlt
  simp only [al2, alL, alB, Tryz.f18, Option.getD_some, lq1, lq2, lbl, llo]
  go_wp2
  go_quiet ((go_at_call 31; refine (HM.out _ (HR.out.drew _)).mono ?_; rintro e w' ⟨h1, n, h2⟩; exact ⟨h1, _, by rw [h2, World.drewN_drewN]⟩))
  go_wp2
  refine HQ.out nq _ ?_
  exact ⟨rfl, rfl, rfl, rfl, rfl⟩
theorem al2_par (rb fb z ob : Nat) (s : ByteArray) (j : Nat) (r : List UInt8) (w : World) (Q : Exit → Act → World → Prop) (a : Array Value) (v6 : Value) (hF : AF rb fb z ob a) (h6 : a[6]? = some v6)
    (hr : RS rb s j true w) (hm : Rm s j (UInt8.ofNat 41 :: r)) (hQ : ∀ n a', AF rb fb z ob a' → Q (.exit 0) ⟨a', []⟩ (w.drewN n)) : Code.wp Tryz.prog al2 Q ⟨a, []⟩ w := by
  refine AF.open (C := fun a => Code.wp Tryz.prog al2 Q ⟨a, []⟩ w) hF h6 fun x => ?_
  obtain ⟨hi, hat⟩ := hm.at
  obtain ⟨c0, c1, c2, _, _, _⟩ := hr.cells
  have hlt : decide ((j : Int) < (s.size : Int)) = true := by simp; omega
  have HM : Hid (∀ w, RS rb s j true w → Calls Tryz.prog 31 #[.pointer (some ⟨rb, 0, none⟩)] w fun e w' => e = .returned (.bool true) ∧ ∃ n, w' = w.drewN n) := Lib.hid fun w h => by
    have := more_any rb s j true w h
    rw [hlt] at this
    exact this
  have hsi : (((s[j]'hi).toNat : Nat) : Int) = 41 := by rw [hat]; rfl
  have HQ := Lib.hid hQ
  have HR := Lib.hid hr
  clear hQ hF h6 hr hm hlt hat
  simp only [al2, alL, alB, Tryz.f18, Option.getD_some, lq1, lq2, lbl, llo]
  go_wp2
  go_quiet ((go_at_call 31; refine (HM.out _ (HR.out.drew _)).mono ?_; rintro e w' ⟨h1, n, h2⟩; exact ⟨h1, _, by rw [h2, World.drewN_drewN]⟩))
  go_wp2
  refine HQ.out nq _ ?_
  exact ⟨rfl, rfl, rfl, rfl, rfl⟩
theorem al2_yes (rb fb z ob : Nat) (s : ByteArray) (j : Nat) (c : UInt8) (r : List UInt8) (w : World) (Q : Exit → Act → World → Prop) (a : Array Value) (v6 : Value) (hF : AF rb fb z ob a) (h6 : a[6]? = some v6)
    (hr : RS rb s j true w) (hm : Rm s j (c :: r)) (hc : c ≠ UInt8.ofNat 41) (hQ : ∀ n a', AF rb fb z ob a' → a'[6]? = some v6 → Q .normal ⟨a', []⟩ (w.drewN n)) : Code.wp Tryz.prog al2 Q ⟨a, []⟩ w := by
  refine AF.open (C := fun a => Code.wp Tryz.prog al2 Q ⟨a, []⟩ w) hF h6 fun x => ?_
  obtain ⟨hi, hat⟩ := hm.at
  obtain ⟨c0, c1, c2, _, _, _⟩ := hr.cells
  have hlt : decide ((j : Int) < (s.size : Int)) = true := by simp; omega
  have HM : Hid (∀ w, RS rb s j true w → Calls Tryz.prog 31 #[.pointer (some ⟨rb, 0, none⟩)] w fun e w' => e = .returned (.bool true) ∧ ∃ n, w' = w.drewN n) := Lib.hid fun w h => by
    have := more_any rb s j true w h
    rw [hlt] at this
    exact this
  have hsi : (((s[j]'hi).toNat : Nat) : Int) = (c.toNat : Int) := by rw [hat]
  have hne : ((c.toNat : Int) == 41) = false := by
    rw [beq_eq_false_iff_ne]
    intro e
    apply hc
    apply UInt8.toNat_inj.1
    show c.toNat = 41
    omega
  have hne2 : ((c.toNat : Int) != 41) = true := by rw [bne, hne]; rfl
  have HQ := Lib.hid hQ
  have HR := Lib.hid hr
  clear hQ hF h6 hr hm hlt hat hc
  simp only [al2, alL, alB, Tryz.f18, Option.getD_some, lq1, lq2, lbl, llo]
  go_wp2
  go_quiet ((go_at_call 31; refine (HM.out _ (HR.out.drew _)).mono ?_; rintro e w' ⟨h1, n, h2⟩; exact ⟨h1, _, by rw [h2, World.drewN_drewN]⟩))
  go_wp2
  exact HQ.out nq _ ⟨rfl, rfl, rfl, rfl, rfl⟩ rfl
end Go.Proofs.YtpfgmiocdgfniaaGreatFmt

namespace Go.Proofs.YtpfgmiocdgfniaaGreatFmt
open Go.RowKit
open Re (Fo)
theorem agg_of {v : Value} (h : v.cells.size = 132) : v = .agg v.cells := by
  cases v <;> first | rfl | (simp [Value.cells] at h)
theorem wp_bsT (d : Tmp) (ty : TypeId) (pos : String) (aft : Array Edge) (g : Option (Nat × Bool)) (a : Act) (w : World) (K : Act → World → Prop) (Q : Exit → Act → World → Prop) (x : Operand) (h : (a.eval x).cells.size = 132) :
    Oper.wp Tryz.prog ⟨some d, .buildSlice 29 1 #[(0, x)], ty, pos, aft, g⟩ a w K Q = K (a.put (some d) (.slice (some ⟨w.heap.size, 0, none⟩) 1 1)) (w.alloc (.cells (a.eval x).cells tRe)) := by
  unfold Oper.wp execOp
  have e : Array.map (fun x : Nat × Operand => (x.fst, a.eval x.snd)) #[(0, x)] = #[(0, .agg (a.eval x).cells)] := by
    have := agg_of h
    simp only [List.map_toArray, List.map_cons, List.map_nil]
    rw [← this]
  simp only [Sem.run_bind, e, run_bs w _ h, Result.andThen_ok, Sem.run_pure, Oper.upon_value]
structure B4 (w w4 : World) (B ob g1 g n cap : Nat) (lv : Value) (aa : List Value) : Prop where
  own : w4.ownsRow B tRe 132 (.slice (some ⟨g, 0, none⟩) (n + 1 + 1) cap) (n + 1 + 1) ((aa ++ (reC 2 noV lv 0 0).toList) ++ (reC 2 noV (.slice none 0 0) 0 0).toList)
  row : w4.heap[ob]? = some (.cells (reC 3 noV (.slice (some ⟨g, 0, none⟩) (n + 1 + 1) cap) 0 0) tRe (0, 0))
  kp : Kp (fun x => x = ob ∨ x = g1) w w4
  hat : g = g1 ∨ w.heap.size ≤ g
  nob : g ≠ ob
theorem news2 (w1 : World) : ∀ j u, (reC 2 noV (.slice none 0 0) 0 0).toList[j]? = some u → (w1.alloc (.cells (reZ.setIfInBounds 0 (.int .i64 2)) tRe)).cell? ((⟨w1.heap.size, 0, none⟩ : Addr).add j) = some u :=
  World.news_of_block (cs := reC 2 noV (.slice none 0 0) 0 0) (t := tRe) (fr := (0, 0)) (heap_alloc_new w1 (.cells (reC 2 noV (.slice none 0 0) 0 0) tRe))
attribute [local go_sem ↓] wp_bsT
theorem al34_bar (B rb fb z ob g1 c1 n : Nat) (lv : Value) (aa : List Value) (s : ByteArray) (j : Nat) (r : List UInt8) (w : World) (Q : Exit → Act → World → Prop) (a : Array Value) (v6 : Value) (hF : AF rb fb z ob a) (h6 : a[6]? = some v6)
    (hr : RS rb s j true w) (hs : s.size ≤ 4611686018427387904) (hm : Rm s j (UInt8.ofNat 124 :: r)) (hro : w.heap[ob]? = some (.cells (reC 3 noV (.slice (some ⟨g1, 0, none⟩) (n + 1) c1) 0 0) tRe (0, 0)))
    (hown : w.ownsRow B tRe 132 (.slice (some ⟨g1, 0, none⟩) (n + 1) c1) (n + 1) (aa ++ (reC 2 noV lv 0 0).toList)) (hn : n ≤ 549755813888) (hB : B ≤ w.heap.size) (hrb : rb < B) (hob : B ≤ ob) (hgo : g1 ≠ ob)
    (hQ : ∀ w1 w4 g cap a', AF rb fb z ob a' → a'[6]? = some v6 → RS rb s (j + 1) true w1 → Kp (· = rb) w w1 → B4 w1 w4 B ob g1 g n cap lv aa → Q (.exit 1) ⟨a', []⟩ w4) : Code.wp Tryz.prog al34 Q ⟨a, []⟩ w := by
  refine AF.open (C := fun a => Code.wp Tryz.prog al34 Q ⟨a, []⟩ w) hF h6 fun x => ?_
  obtain ⟨ie, hi, hz0, hz1, hz2⟩ := info_parts infoReB
  have hbg : B ≤ g1 := by
    rcases hown.2 with ⟨h0, _⟩ | ⟨g', cap', cur, hv, hb, _⟩
    · cases h0
    · cases hv; exact hb
  have hrz : reZ.size = 132 := rfl
  have hz := zeroRe
  have HQ := Lib.hid hQ
  have HR := Lib.hid hr
  have HM := Lib.hid hm
  have HO := Lib.hid hown
  have HRO := Lib.hid hro
  clear hQ hF h6 hr hm hown hro
  simp only [al34, alI, alL, alB, Tryz.f18, Option.getD_some, lq1, lq2, lbl, llo]
  go_wp2_with fail
  refine (skip_t rb s ⟨#[124]⟩ j true _ _ HR.out hs HM.out).mono ?_
  rintro e w1 ⟨rfl, hr1, hk1⟩
  have hob1 : w1.heap[ob]? = some (.cells (reC 3 noV (.slice (some ⟨g1, 0, none⟩) (n + 1) c1) 0 0) tRe (0, 0)) := hk1.heap (by show ¬ ob = rb; omega) HRO.out
  have hown1 : w1.ownsRow B tRe 132 (.slice (some ⟨g1, 0, none⟩) (n + 1) c1) (n + 1) (aa ++ (reC 2 noV lv 0 0).toList) := ownsRow_kept HO.out hk1 (by show ¬ g1 = rb; omega)
  have o1 : w1.cell? ⟨ob, 129, none⟩ = some (.slice (some ⟨g1, 0, none⟩) (n + 1) c1) := by rw [Lib.cell_of_heap hob1]; exact reC_129 3 noV _ 0 0 rfl
  have olt : ob < w1.heap.size := (Array.getElem?_eq_some_iff.1 hob1).1
  have hB1 : B ≤ w1.heap.size := Nat.le_trans hB hk1.size
  have HR1 := Lib.hid hr1
  have HK1 := Lib.hid hk1
  have HO1 := Lib.hid hob1
  have HW1 := Lib.hid hown1
  clear hr1 hk1 hob1 hown1
  go_wp2_with (at_builtin; refine wpList_append_lies _ rfl _ _ 29 rfl B tRe ie (.agg reZ) 132 176 Tryz.underlying29 hi hz0 hz1 hz2 rfl (by decide) _ (n + 1) _ rfl (HW1.out.alloc _) ⟨w1.heap.size, 0, none⟩ 1 1 (reC 2 noV (.slice none 0 0) 0 0).toList rfl rfl (news2 w1) (oneC_reC oneC_no rfl) (by decide) (by unfold maxLen; omega) (by omega) (by simp; omega) _ rfl ?_)
  intro g cap w3 hown3 hgrow3 hat3 hlt3
  have hgo3 : g ≠ ob := by
    rcases hat3 with e | e
    · have e : g1 = g := by simpa [Value.ownBlock] using e
      omega
    · omega
  have r3 : w3.heap[ob]? = some (.cells (reC 3 noV (.slice (some ⟨g1, 0, none⟩) (n + 1) c1) 0 0) tRe (0, 0)) := by
    rw [hgrow3.block ob (by simp; omega) (fun e => by have e : ob = g1 := by simpa [Value.ownBlock] using e
                                                      omega), Lib.alloc_old _ _ _ olt]
    exact HO1.out
  have o3 : w3.cell? ⟨ob, 129, none⟩ = some (.slice (some ⟨g1, 0, none⟩) (n + 1) c1) := by rw [Lib.cell_of_heap r3]; exact reC_129 3 noV _ 0 0 rfl
  have q3 : w3.frozen? ⟨ob, 129, none⟩ = false := Lib.frozen_of_heap r3 _
  have HB4 : Hid (B4 w1 (w3.setCell ⟨ob, 129, none⟩ (.slice (some ⟨g, 0, none⟩) (n + 1 + 1) cap)) B ob g1 g n cap lv aa) := by
    refine Lib.hid ⟨?_, ?_, ?_, ?_, hgo3⟩
    · rw [List.append_assoc]; exact ownsRow_kept hown3 (Kp.setCell (X := (· = ob)) (p := ⟨ob, 129, none⟩) (Kp.refl _ _) (.inl rfl) _) hgo3
    · exact (heap_setCell_same _ _ _ _ _ _ r3).trans rfl
    · refine ((((Kp.refl (fun x => x = ob ∨ x = g1) w1).alloc _).trans ((grown_kp hgrow3).mono (fun k _ hk => .inr ?_)))).setCell (p := ⟨ob, 129, none⟩) (.inl (.inl rfl)) _
      have e : g1 = k := by simpa [Value.ownBlock] using hk
      exact e.symm
    · rcases hat3 with e | e
      · exact .inl (by have e : g1 = g := by simpa [Value.ownBlock] using e
                       exact e.symm)
      · exact .inr (by omega)
  clear hown3 hgrow3 hat3 r3
  go_wp2_with fail
  exact HQ.out w1 _ g cap _ ⟨rfl, rfl, rfl, rfl, rfl⟩ rfl HR1.out HK1.out HB4.out
end Go.Proofs.YtpfgmiocdgfniaaGreatFmt

namespace Go.Proofs.YtpfgmiocdgfniaaGreatFmt
open Go.RowKit
open Re (Fo)
theorem noV_eq : noV = Re.no128.map Value.bool := by simp [noV, Re.no128, Re.falses]
theorem Sl.of_own {w : World} {B : Nat} {P : Nat → Prop} {v : Value} {n : Nat} {xs : List Value} (h : w.ownsRow B tRe 132 v n xs) (hP : ∀ g, v.ownBlock = some g → B ≤ g → P g) : Sl P w v n xs := by
  refine ⟨h.1, ?_⟩
  rcases h.2 with h0 | ⟨g, cap, cur, rfl, hb, hg, h1, h2, h3, h4⟩
  · exact .inl h0
  · exact .inr ⟨g, cap, cur, rfl, hP g rfl hb, hg, h1, h2, h3, h4⟩
section
variable {B rb fb z ob g1 c1 g cap : Nat} {lv : Value} {r1 : Array Value} {aa ks : List Value} {s : ByteArray} {j : Nat} {fold dot : Bool} {A K : Fo} {w0 w w4 : World}
theorem AL.bar (h : AL B rb fb z ob g1 c1 lv r1 aa ks s j fold dot A K w0 w) (h4 : B4 w w4 B ob g1 g A.len cap lv aa) :
    ∃ r1', AL B rb fb z ob g cap (.slice none 0 0) r1' (aa ++ (reC 2 noV lv 0 0).toList) [] s j fold dot (A.app (.cons 2 Re.no128 K 0 0 .nil)) .nil w0 w4 := by
  obtain ⟨hl1, hl2, hl3, hl4, hbg⟩ := h.last
  obtain ⟨sb1, sb2, sb3, sb4, sb5⟩ := h.sb
  have hlt := h.k.size
  have zlt : z < w.heap.size := (Array.getElem?_eq_some_iff.1 h.hz).1
  have flt : fb < w.heap.size := (Array.getElem?_eq_some_iff.1 h.f).1
  have hof : ob ≠ fb := blk_ne h.ho h.f (by decide)
  have k4 := h4.kp
  have far : ∀ x, x ≠ ob → x ≠ g1 → ¬ (x = ob ∨ x = g1) := fun x a b c => c.elim a b
  obtain ⟨la, lc, e, hla⟩ := ownsRow_form h.ol
  have hne : ∀ x, x ≠ g1 → x < w.heap.size → x ≠ g := fun x a b c => by
    subst c
    rcases h4.hat with e | e
    · exact a e
    · omega
  have keep : ∀ {F : Fo} {xs : List Value}, FoC (PA B fb z ob g1 lv) w F xs → FoC (PA B fb z ob g (.slice none 0 0)) w4 F xs := by
    intro F xs hF
    have h1 : FoC (fun x => PA B fb z ob g1 lv x ∧ x < w.heap.size) w F xs := hF.mono (fun x hx hl => ⟨hx, hl⟩)
    have h2 := h1.kept k4 (fun x hx => far x hx.1.2.2.1 hx.1.2.1)
    exact h2.mono (fun x hx _ => ⟨hx.1.1, hne x hx.1.2.1 hx.2, hx.1.2.2.1, hx.1.2.2.2.1, hx.1.2.2.2.2.1, fun e => by cases e⟩)
  have hsl : Sl (PA B fb z ob g (.slice none 0 0)) w4 lv K.len ks := by
    have h1 : Sl (fun x => (x ≠ g1 ∧ x ≠ ob ∧ x ≠ z ∧ x ≠ fb) ∧ B ≤ x ∧ x < w.heap.size) w lv K.len ks := by
      refine Sl.of_own h.ol (fun x hx hb => ⟨h.sl x hx, hb, ?_⟩)
      rw [e, ownBlock_slice] at hx
      cases la with
      | none => cases hx
      | some p => have := (hla p rfl).2; have e2 : p.block = x := by simpa using hx
                  omega
    have h2 := h1.kept k4 (fun x hx => far x hx.1.2.1 hx.1.1)
    exact h2.mono (fun x hx _ => ⟨hx.2.1, hne x hx.1.1 hx.2.2, hx.1.2.1, hx.1.2.2.1, hx.1.2.2.2, fun e => by cases e⟩)
  have hlen : (A.app (.cons 2 Re.no128 K 0 0 .nil)).len = A.len + 1 := by rw [Fo.len_app]; rfl
  have hgs : g ≠ z ∧ g ≠ fb := by
    rcases h4.hat with e | e
    · subst e; exact h.sg.2
    · omega
  obtain ⟨r1', hrow⟩ : ∃ r1', w4.heap[g]? = some (.cells r1' tRe (0, 0)) := by
    rcases h4.own.2 with ⟨h0, _⟩ | ⟨g', cap', cur, hv, hb, hg, _⟩
    · cases h0
    · cases hv; exact ⟨cur, hg⟩
  refine ⟨r1', ?_, ?_, ?_, ?_, ?_, hrow, ?_, ⟨rfl, .inl ⟨rfl, rfl⟩⟩, ?_, rfl, ⟨h4.nob, hgs.1, hgs.2⟩, ?_, h.sb, h.ne⟩
  · exact h.r.kept k4 (far rb (by omega) (by omega))
  · exact k4.heap (far fb (fun e => hof e.symm) (fun e => h.sg.2.2 e.symm)) h.f
  · exact k4.heap (far z h.ne (fun e => h.sg.2.1 e.symm)) h.hz
  · rw [hlen]; exact h4.row
  · exact h.k.seq' k4 (fun x hx hne => far x (by omega) (by omega))
  · rw [hlen]; exact h4.own
  · refine (keep h.fa).app ⟨by simp [Re.no128, Re.falses], lv, ks, [], ?_, hsl, keep h.fk, rfl⟩
    rw [← noV_eq]; simp
  · intro p hp; cases hp
end
end Go.Proofs.YtpfgmiocdgfniaaGreatFmt
