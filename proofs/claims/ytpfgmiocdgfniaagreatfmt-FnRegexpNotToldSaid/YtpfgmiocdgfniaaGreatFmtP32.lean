/- Joined by pack.py: LaidC, LaidF. -/
import Derived.Test.YtpfgmiocdgfniaaGreatFmtP31
import Derived.Test.YtpfgmiocdgfniaaGreatFmtCards
import Derived.Test.YtpfgmiocdgfniaaGreatFmtTie
import Derived.Stop.LaidErr
import Derived.Lib.LaidU8
import Derived.PinnedBridge
import Derived.LaidHandle
import Derived.LaidMore
import Derived.LaidLaws
import Derived.ProofKit
import Derived.Carry
import Derived.Stop.Joined
import Derived.Stop.JoinedTold
import Derived.Stop.JoinedAt
import Derived.SevenTiedAt
import Derived.Deep.DeepWitnessRef
import Derived.Deep.DeepWitnessRowRef
set_option linter.unusedVariables false
set_option maxHeartbeats 8000000
set_option maxRecDepth 1000000
namespace Go.Proofs.YtpfgmiocdgfniaaGreatFmt
open Go.ChangeShapes Go.WideShapes Go.ChangeAt Go.RowKit Go.Lib
theorem laidOut : laidOutB Tryz.prog = true := by kernel_rfl
noncomputable abbrev laidAll : List (String × DataW Unit) := [("unicode/utf8.acceptRanges", Rows.laid_unicode_utf8_acceptRanges), ("errors.errorType", Rows.laid_errors_errorType), ("io.EOF", Rows.laid_io_EOF), ("loop.example/pub-shellpatterns/spec.classNames", Rows.laid_loop_example_pub_shellpatterns_spec_classNames), ("loop.example/pub-shellpatterns/spec.ranges", Rows.laid_loop_example_pub_shellpatterns_spec_ranges), ("unicode/utf8.first", Rows.laid_unicode_utf8_first)]
noncomputable abbrev laidData : List (String × DataW Unit) := [("unicode/utf8.acceptRanges", Rows.laid_unicode_utf8_acceptRanges), ("io.EOF", Rows.laid_io_EOF), ("loop.example/pub-shellpatterns/spec.classNames", Rows.laid_loop_example_pub_shellpatterns_spec_classNames), ("loop.example/pub-shellpatterns/spec.ranges", Rows.laid_loop_example_pub_shellpatterns_spec_ranges), ("unicode/utf8.first", Rows.laid_unicode_utf8_first)]
theorem cString : Tryz.prog.cellsOf 9 = 1 := by kernel_rfl
theorem strings_at {W : World} {n : String} {g : Nat} {cs : Array Value} {fuel : Nat} {p : List MemPlace} (l : List (List UInt8)) (hl : 0 < l.length) (hg : Tryz.prog.globalNamed n = some g) (hv : W.var? Tryz.prog n = some cs)
    (hd : DataW.trod (fun _ => ()) Tryz.prog W 0 (fun _ => true) false fuel 73 cs.toList = some (.slice (l.map fun x => .lit (.string x)) [], p)) :
    ∃ cb co cc, W.cell? ⟨g, 0, none⟩ = some (.slice (some ⟨cb, co, none⟩) l.length cc) ∧ ∀ i, i < l.length → W.cell? ⟨cb, co + i, none⟩ = some (.string ⟨(l.getD i []).toArray⟩) := by
  obtain ⟨a, cap, hcs, _, hel⟩ := open_row Tryz.underlying73 cString hd
  have hcell : W.cell? ⟨g, 0, none⟩ = some (.slice (some a) l.length cap) := by
    have := World.var?_cell hg hv 0
    rw [Array.eq_one_of_toList hcs] at this
    simpa using this
  have hat : ∀ i, i < l.length → W.cell? (a.add i) = some (.string ⟨(l.getD i []).toArray⟩) := by
    intro i hi
    obtain ⟨v, m, q, hc, ht⟩ := hel i (.lit (.string l[i])) (by simp [List.getElem?_eq_getElem hi])
    obtain ⟨s, hs, hx, _⟩ := DataW.trod_string Tryz.underlying9 ht
    obtain rfl := List.head_eq_of_cons_eq hs
    simp only [Prod.mk.injEq, DataW.lit.injEq, Lit.string.injEq] at hx
    rw [hc]
    have e : (l.getD i []) = s.data.toList := by simp [List.getD, List.getElem?_eq_getElem hi, hx.1]
    rw [e, Pat.bytes_eta]
  have hsp : a.spot = none := by
    have := World.cell?_spot (hat 0 hl)
    simpa [Addr.add] using this
  obtain ⟨b, o, s⟩ := a
  simp only at hsp
  subst hsp
  refine ⟨b, o, cap, hcell, fun i hi => ?_⟩
  have := hat i hi
  have e : (⟨b, o, none⟩ : Addr).add i = ⟨b, o + i, none⟩ := by unfold Addr.add; split <;> simp_all
  rwa [e] at this
theorem gNm : Tryz.prog.globalNamed "loop.example/pub-shellpatterns/spec.classNames" = some 0 := by kernel_rfl
theorem gRg : Tryz.prog.globalNamed "loop.example/pub-shellpatterns/spec.ranges" = some 3 := by kernel_rfl
theorem tNm : (Tryz.prog.globals[0]?).map (·.type) = some 73 := by kernel_rfl
theorem tRg : (Tryz.prog.globals[3]?).map (·.type) = some 73 := by kernel_rfl
def texts (f : Nat → List Nat) : List (List UInt8) := (List.range 13).map fun k => bs (f k)
theorem texts_get (f : Nat → List Nat) (k : Nat) (hk : k < 13) : (texts f).getD k [] = bs (f k) := by
  simp [texts, List.getD, hk]
theorem names_data : Rows.laid_loop_example_pub_shellpatterns_spec_classNames (H := Unit) = .slice ((texts Re.nmL).map fun x => .lit (.string x)) [] := by kernel_rfl
theorem ranges_data : Rows.laid_loop_example_pub_shellpatterns_spec_ranges (H := Unit) = .slice ((texts rgL).map fun x => .lit (.string x)) [] := by kernel_rfl
theorem tb_of {W : World} {n : String} {g : Nat} {f : Nat → List Nat} {d : DataW Unit} (hg : Tryz.prog.globalNamed n = some g) (ht : (Tryz.prog.globals[g]?).map (·.type) = some 73) (hd : d = .slice ((texts f).map fun x => .lit (.string x)) []) (h : VarReads Tryz.prog W n d) : TB g f W := by
  subst hd
  obtain ⟨g2, t, cs, fuel, p, h1, h2, h3, h4⟩ := h
  obtain rfl := Option.some.inj (hg.symm.trans h1)
  obtain rfl := Option.some.inj (ht.symm.trans h2)
  obtain ⟨cb, co, cc, c1, c2⟩ := strings_at (texts f) (by simp [texts]) hg h3 h4
  have hl : (texts f).length = 13 := by simp [texts]
  rw [hl] at c1 c2
  exact ⟨cb, co, cc, c1, fun k hk => by rw [c2 k hk, texts_get f k hk]⟩
theorem ct_of {W : World} (h : laidMet Tryz.prog laidData W) : CT W :=
  ⟨tb_of gRg tRg ranges_data (Lib.laidMet.reads h (by simp [laidData])), tb_of gNm tNm names_data (Lib.laidMet.reads h (by simp [laidData]))⟩
end Go.Proofs.YtpfgmiocdgfniaaGreatFmt

namespace Go.Proofs.YtpfgmiocdgfniaaGreatFmt
open Go.ChangeShapes Go.WideShapes Go.ChangeAt Go.RowKit Go.Lib
theorem trodVars_below {H : Type} {enc : TypeId × Value → H} {W W' : World} (hb : Below W.heap.size W W') : ∀ {ns : List String} {gs : List (DataW H)} {ps : List MemPlace},
    (∀ n ∈ ns, ∀ g, Tryz.prog.globalNamed n = some g → (Tryz.prog.globals[g]?).map (·.type) = some 73) →
    DataW.TrodVars enc Tryz.prog W (fun _ => true) ns gs ps → DataW.TrodVars enc Tryz.prog W' (fun b => decide (b < W.heap.size)) ns gs ps
  | [], [], ps, _, h => h
  | [], _ :: _, ps, _, h => by cases h
  | n :: ns, [], ps, _, h => by cases h
  | n :: ns, d :: gs, ps, hns, ⟨g, t, cs, fuel, p, q, h1, h2, h3, h4, h5, h6⟩ => by
    have ht := Option.some.inj ((hns n (by simp) g h1).symm.trans h2)
    subst ht
    have hlt : g < W.heap.size := by
      simp only [World.var?, h1, Option.bind_some] at h3
      rcases Nat.lt_or_ge g W.heap.size with h | h
      · exact h
      · simp [Array.getElem?_eq_none h] at h3
    obtain ⟨v, hv⟩ : ∃ v, cs.toList = [v] := by
      rcases DataW.trod_slice Tryz.underlying73 h4 with ⟨h, _⟩ | ⟨a, len, cap, elems, rest, m, _, h, _⟩
      · exact ⟨_, h⟩
      · exact ⟨_, h⟩
    have hcell : ∃ fuel', DataW.trod enc Tryz.prog W' 0 (fun b => decide (b < W.heap.size)) true fuel' 73 cs.toList = some (d, p) := by
      have hsl : v.cells.toList = [v] := by
        rcases DataW.trod_slice Tryz.underlying73 h4 with ⟨h, _⟩ | ⟨a, len, cap, elems, rest, m, _, h, _⟩
        · rw [hv] at h; obtain rfl := List.head_eq_of_cons_eq h; rfl
        · rw [hv] at h; obtain rfl := List.head_eq_of_cons_eq h; rfl
      have hT : DataW.Trod enc Tryz.prog W 0 (fun _ => true) true 73 v d p := ⟨fuel, by rw [hsl, ← hv]; exact h4⟩
      have := Below.trod laidOut (by kernel_rfl) (of_decide_eq_true (by kernel_rfl)) hT hb (DataW.trod_lt fuel _ _ _ h4)
      obtain ⟨f2, h⟩ := this
      rw [hsl, ← hv] at h
      exact ⟨f2, h⟩
    obtain ⟨f2, hc2⟩ := hcell
    exact ⟨g, 73, cs, f2, p, q, h1, h2, var?_below hb h1 hlt h3, hc2, trodVars_below hb (fun m hm => hns m (by simp [hm])) h5, h6⟩
theorem laid_parts {W : World} (h : laidMetH Tryz.prog laidAll W) : laidMet Tryz.prog laidData W ∧ handlesMet Tryz.prog [("errors.errorType", Rows.laid_errors_errorType)] W := h
theorem etG : Tryz.prog.globalNamed "errors.errorType" = some gT := by kernel_rfl
theorem rtT : (Tryz.prog.cutTypes.find? (·.1 == "internal/reflectlite.rtype")).map (·.2) = some tRt := by kernel_rfl
theorem oneRow : ((List.range Tryz.prog.types.size).filter fun t => Tryz.prog.rowNamed t [101, 114, 114, 111, 114]) = [49] := by kernel_rfl
theorem handle_cell {W : World} (h : handlesMet Tryz.prog [("errors.errorType", Rows.laid_errors_errorType)] W) : W.cell? ⟨gT, 0, none⟩ = some hT0 := by
  obtain ⟨name, u, ty, e1, e2, e3, e4, e5⟩ := h _ (List.mem_singleton.2 rfl)
  have en : name = [101, 114, 114, 111, 114] := (Option.some.inj e1).symm
  subst en
  obtain rfl := Option.some.inj (rtT.symm.trans e2)
  have hm : ty ∈ (List.range Tryz.prog.types.size).filter fun t => Tryz.prog.rowNamed t [101, 114, 114, 111, 114] := List.mem_filter.2 ⟨List.mem_range.2 e3, e4⟩
  rw [oneRow] at hm
  obtain rfl := List.mem_singleton.1 hm
  have hh : typeHandle Tryz.prog 49 = .pointer (some ⟨nG, 49, none⟩) := by kernel_rfl
  rw [hh] at e5
  simpa using World.var?_cell etG e5 0
theorem starES : "*" ++ "errors.errorString" = "*errors.errorString" := by decide
theorem rowES (u : TypeId) (h : Tryz.prog.typeName? 3 u = some "*errors.errorString") : u = 154 :=
  typeName_ptr_named (nm := "errors.errorString") (by rw [starES]; kernel_rfl) (by kernel_rfl) (by decide) u (by rw [starES]; exact h)
theorem u8X : U8Extra Tryz.prog Tryz.lays260_ren := ⟨by kernel_rfl, by kernel_rfl, by kernel_rfl, by kernel_rfl, by kernel_rfl, by kernel_rfl, by kernel_rfl⟩
theorem accept_eq : Rows.laid_unicode_utf8_acceptRanges (H := Unit) = acceptData := by kernel_rfl
theorem tabs_of {W : World} (h : laidMet Tryz.prog laidData W) : Tabs W :=
  utf8Tabs_of_reads (ρ := Tryz.lays260_ren) { Tryz.lays260 with } u8X (Pinned.utf8First_eq ▸ (Lib.laidMet.reads h (n := "unicode/utf8.first") (d := Rows.laid_unicode_utf8_first) (by simp [laidData]))) (accept_eq ▸ (Lib.laidMet.reads h (n := "unicode/utf8.acceptRanges") (d := Rows.laid_unicode_utf8_acceptRanges) (by simp [laidData])))
theorem lw_of {F : Stop.Interp} {W : World} (h : laidMetH Tryz.prog laidAll W) (hF : F.answers W.tape) : ∃ pe, LW F pe W := by
  obtain ⟨h1, h2⟩ := laid_parts h
  obtain ⟨a, s, hv, hc, _, _⟩ := laid_sentinel (g := gE) h1.tail (by kernel_rfl) (by kernel_rfl) Tryz.underlying49 rowES Tryz.underlying154 Tryz.underlying156 rfl rfl Tryz.underlying9 (by kernel_rfl) (by kernel_rfl)
  have hE : W.cell? ⟨gE, 0, none⟩ = some (eofV a) := by simpa using World.var?_cell (by kernel_rfl) hv 0
  have hT := handle_cell h2
  have hTb := tabs_of h1
  have l1 := World.block_lt_of_cell? _ _ hE
  have l2 := World.block_lt_of_cell? _ _ (hTb.1 0 (by decide))
  have l3 := World.block_lt_of_cell? _ _ (hTb.2 0 (by decide)).1
  exact ⟨a, hTb, hE, hF, ⟨l1, by first | exact l2 | exact l3, by first | exact l3 | exact l2⟩, hT, ct_of h1⟩
noncomputable def laidW (os : Os) : World :=
  let w0 := World.doorLaid Tryz.prog 400 os
  { w0 with heap := w0.heap.modify 4 fun
      | .cells _ t frozen => .cells (firstTab.map (Value.int .u8)).toArray t frozen
      | o => o }
theorem laidW_met (os : Os) (args : Array Value) : laidMetH Tryz.prog laidAll ((laidW os).forCall (fun _ _ => 0) ⟨#[], args, []⟩).memory :=
  laidMetH_of_parts (l := laidAll) (laidMet_of_run' 8 (by kernel_rfl) (by kernel_rfl)) (by kernel_rfl)
end Go.Proofs.YtpfgmiocdgfniaaGreatFmt
