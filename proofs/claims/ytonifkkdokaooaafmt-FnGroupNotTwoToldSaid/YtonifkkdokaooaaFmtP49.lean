/- Joined by pack.py: LaidF. -/
import Derived.Test.YtonifkkdokaooaaFmtCards
import Derived.Test.YtonifkkdokaooaaFmtTie
import Derived.Test.YtonifkkdokaooaaFmtP47
import Derived.Stop.LaidErr
import Derived.Lib.LaidU8
import Derived.PinnedBridge
import Derived.LaidHandle
import Derived.LaidMore
import Derived.LaidLaws
import Derived.ProofKit
import Derived.Carry
import Derived.Stop.Joined
import Derived.Stop.JoinedTold
import Derived.Stop.JoinedAt
import Derived.SevenTiedAt
import Derived.Deep.DeepWitnessRef
import Derived.Deep.DeepWitnessRowRef
/- The listed variables: what they give a walk; a world in which they lie so; that they read again behind the call. -/
namespace Go.Proofs.YtonifkkdokaooaaFmt
open Go.ChangeShapes Go.WideShapes Go.ChangeAt Go.RowKit Go.Lib
set_option linter.unusedVariables false

/-- a named variable of slices of strings reads again behind a call that turns nothing that was there -/
theorem trodVars_below {H : Type} {enc : TypeId × Value → H} {W W' : World} (hb : Below W.heap.size W W') : ∀ {ns : List String} {gs : List (DataW H)} {ps : List MemPlace},
    (∀ n ∈ ns, ∀ g, Tryf.prog.globalNamed n = some g → (Tryf.prog.globals[g]?).map (·.type) = some 131) →
    DataW.TrodVars enc Tryf.prog W (fun _ => true) ns gs ps → DataW.TrodVars enc Tryf.prog W' (fun b => decide (b < W.heap.size)) ns gs ps
  | [], [], ps, _, h => h
  | [], _ :: _, ps, _, h => by cases h
  | n :: ns, [], ps, _, h => by cases h
  | n :: ns, d :: gs, ps, hns, ⟨g, t, cs, fuel, p, q, h1, h2, h3, h4, h5, h6⟩ => by
    have ht := Option.some.inj ((hns n (by simp) g h1).symm.trans h2)
    subst ht
    have hlt : g < W.heap.size := by
      simp only [World.var?, h1, Option.bind_some] at h3
      rcases Nat.lt_or_ge g W.heap.size with h | h
      · exact h
      · simp [Array.getElem?_eq_none h] at h3
    obtain ⟨v, hv⟩ : ∃ v, cs.toList = [v] := by
      rcases DataW.trod_slice Tryf.underlying131 h4 with ⟨h, _⟩ | ⟨a, len, cap, elems, rest, m, _, h, _⟩
      · exact ⟨_, h⟩
      · exact ⟨_, h⟩
    have hcell : ∃ fuel', DataW.trod enc Tryf.prog W' 0 (fun b => decide (b < W.heap.size)) true fuel' 131 cs.toList = some (d, p) := by
      have hsl : v.cells.toList = [v] := by
        rcases DataW.trod_slice Tryf.underlying131 h4 with ⟨h, _⟩ | ⟨a, len, cap, elems, rest, m, _, h, _⟩
        · rw [hv] at h; obtain rfl := List.head_eq_of_cons_eq h; rfl
        · rw [hv] at h; obtain rfl := List.head_eq_of_cons_eq h; rfl
      have hT : DataW.Trod enc Tryf.prog W 0 (fun _ => true) true 131 v d p := ⟨fuel, by rw [hsl, ← hv]; exact h4⟩
      have := Below.trod laidOut (by kernel_rfl) (of_decide_eq_true (by kernel_rfl)) hT hb (DataW.trod_lt fuel _ _ _ h4)
      obtain ⟨f2, h⟩ := this
      rw [hsl, ← hv] at h
      exact ⟨f2, h⟩
    obtain ⟨f2, hc2⟩ := hcell
    exact ⟨g, 131, cs, f2, p, q, h1, h2, var?_below hb h1 hlt h3, hc2, trodVars_below hb (fun m hm => hns m (by simp [hm])) h5, h6⟩

theorem laid_parts {W : World} (h : laidMetH Tryf.prog laidAll W) : laidMet Tryf.prog laidData W ∧ handlesMet Tryf.prog [("errors.errorType", Rows.laid_errors_errorType)] W := h
theorem etG : Tryf.prog.globalNamed "errors.errorType" = some gT := by kernel_rfl
theorem rtT : (Tryf.prog.cutTypes.find? (·.1 == "internal/reflectlite.rtype")).map (·.2) = some tRt := by kernel_rfl
theorem oneRow : ((List.range Tryf.prog.types.size).filter fun t => Tryf.prog.rowNamed t [101, 114, 114, 111, 114]) = [41] := by kernel_rfl
theorem handle_cell {W : World} (h : handlesMet Tryf.prog [("errors.errorType", Rows.laid_errors_errorType)] W) : W.cell? ⟨gT, 0, none⟩ = some hT0 := by
  obtain ⟨name, u, ty, e1, e2, e3, e4, e5⟩ := h _ (List.mem_singleton.2 rfl)
  have en : name = [101, 114, 114, 111, 114] := (Option.some.inj e1).symm
  subst en
  obtain rfl := Option.some.inj (rtT.symm.trans e2)
  have hm : ty ∈ (List.range Tryf.prog.types.size).filter fun t => Tryf.prog.rowNamed t [101, 114, 114, 111, 114] := List.mem_filter.2 ⟨List.mem_range.2 e3, e4⟩
  rw [oneRow] at hm
  obtain rfl := List.mem_singleton.1 hm
  have hh : typeHandle Tryf.prog 41 = .pointer (some ⟨nG, 41, none⟩) := by kernel_rfl
  rw [hh] at e5
  simpa using World.var?_cell etG e5 0
theorem starES : "*" ++ "errors.errorString" = "*errors.errorString" := by decide
theorem rowES (u : TypeId) (h : Tryf.prog.typeName? 3 u = some "*errors.errorString") : u = 142 :=
  typeName_ptr_named (nm := "errors.errorString") (by rw [starES]; kernel_rfl) (by kernel_rfl) (by decide) u (by rw [starES]; exact h)
theorem u8X : U8Extra Tryf.prog Tryf.lays260_ren := ⟨by kernel_rfl, by kernel_rfl, by kernel_rfl, by kernel_rfl, by kernel_rfl, by kernel_rfl, by kernel_rfl⟩
theorem accept_eq : Rows.laid_unicode_utf8_acceptRanges (H := Unit) = acceptData := by kernel_rfl
theorem tabs_of {W : World} (h : laidMet Tryf.prog laidData W) : Tabs W :=
  utf8Tabs_of_reads (ρ := Tryf.lays260_ren) { Tryf.lays260 with } u8X (Pinned.utf8First_eq ▸ (Lib.laidMet.reads h (n := "unicode/utf8.first") (d := Rows.laid_unicode_utf8_first) (by simp [laidData]))) (accept_eq ▸ (Lib.laidMet.reads h (n := "unicode/utf8.acceptRanges") (d := Rows.laid_unicode_utf8_acceptRanges) (by simp [laidData])))
/-- what the condition gives a walk -/
theorem lw_of {F : Stop.Interp} {W : World} (h : laidMetH Tryf.prog laidAll W) (hF : F.answers W.tape) : ∃ pe, LW F pe W := by
  obtain ⟨h1, h2⟩ := laid_parts h
  obtain ⟨a, s, hv, hc, _, _⟩ := laid_sentinel (g := gE) h1.tail (by kernel_rfl) (by kernel_rfl) Tryf.underlying41 rowES Tryf.underlying142 Tryf.underlying144 rfl rfl Tryf.underlying9 (by kernel_rfl) (by kernel_rfl)
  have hE : W.cell? ⟨gE, 0, none⟩ = some (eofV a) := by simpa using World.var?_cell (by kernel_rfl) hv 0
  have hT := handle_cell h2
  have hTb := tabs_of h1
  have l1 := World.block_lt_of_cell? _ _ hE
  have l2 := World.block_lt_of_cell? _ _ (hTb.1 0 (by decide))
  have l3 := World.block_lt_of_cell? _ _ (hTb.2 0 (by decide)).1
  exact ⟨a, hTb, hE, hF, ⟨l1, by first | exact l2 | exact l3, by first | exact l3 | exact l2⟩, hT, ct_of h1⟩
/-- the witness' world: what the door lays, and the table -/
noncomputable def laidW (os : Os) : World :=
  let w0 := World.doorLaid Tryf.prog 400 os
  { w0 with heap := w0.heap.modify 4 fun
      | .cells _ t frozen => .cells (firstTab.map (Value.int .u8)).toArray t frozen
      | o => o }
set_option maxRecDepth 100000 in
theorem laidW_met (os : Os) (args : Array Value) : laidMetH Tryf.prog laidAll ((laidW os).forCall (fun _ _ => 0) ⟨#[], args, []⟩).memory :=
  laidMetH_of_parts (l := laidAll) (laidMet_of_run' 8 (by kernel_rfl) (by kernel_rfl)) (by kernel_rfl)
end Go.Proofs.YtonifkkdokaooaaFmt
