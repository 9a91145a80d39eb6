/- The class [:xdigit:] has just the bytes that it has in the POSIX locale: the law FnClassXdigit holds for every byte. The listed package-level variables hold what the program's text lays (tied); fmt's texts are told by the authors' function (tested, not proved from fmt's source). -/
import Derived.Test.YtonifkkdokaooaaFmtP49
import Derived.Test.YtonifkkdokaooaaFmtCardF
import Derived.Test.YtonifkkdokaooaaFmtP48
import Derived.OpenShut
import Derived.ShutString
import Derived.ChangeOld
import Derived.Below
import Derived.SevenTiedAt
namespace Go.Proofs.YtonifkkdokaooaaFmt.fnClassXdigit
open Go.ChangeShapes Go.WideShapes Go.ChangeAt Go.RowKit Go.Extern.Stop Go.Stop Go.Extern
open Go.ChangeMaps (open_string shut_string)
set_option linter.unusedVariables false

theorem reads (os : Os) {H : Type} (enc : TypeId × Value → H) : ∃ places, DataW.whole enc Tryf.prog ((laidW os).forCall (fun _ _ => 0) ⟨#[], #[.int .u8 0], []⟩).memory Tryf.f14.params.toList Rows.fnClassXdigitSpec.vars false (#[Value.int .u8 0] : Array Value).toList 8 = some ([.lit (.int .u8 0)], [Rows.laid_loop_example_pub_shellpatterns_spec_classNames, Rows.laid_loop_example_pub_shellpatterns_spec_ranges], places) := by
  have h : (DataW.whole enc Tryf.prog ((laidW os).forCall (fun _ _ => 0) ⟨#[], #[.int .u8 0], []⟩).memory Tryf.f14.params.toList Rows.fnClassXdigitSpec.vars false (#[Value.int .u8 0] : Array Value).toList 8).map (fun x => (x.1, x.2.1)) = some ([.lit (.int .u8 0)], [Rows.laid_loop_example_pub_shellpatterns_spec_classNames, Rows.laid_loop_example_pub_shellpatterns_spec_ranges]) := by kernel_rfl
  obtain ⟨⟨x1, x2, x3⟩, hx, he⟩ := Option.map_eq_some_iff.1 h
  simp only [Prod.mk.injEq] at he
  obtain ⟨rfl, rfl⟩ := he
  exact ⟨x3, hx⟩
theorem gN0 : Tryf.prog.globalNamed "loop.example/pub-shellpatterns/spec.classNames" = some 2 := by kernel_rfl
theorem gN1 : Tryf.prog.globalNamed "loop.example/pub-shellpatterns/spec.ranges" = some 3 := by kernel_rfl
theorem tN0 : (Tryf.prog.globals[2]?).map (·.type) = some 131 := by kernel_rfl
theorem tN1 : (Tryf.prog.globals[3]?).map (·.type) = some 131 := by kernel_rfl

noncomputable abbrev wArgs : Array Value := #[.int .u8 0]
set_option maxRecDepth 100000 in
theorem wit1 (os : Os) : ((laidW os).forCall (fun _ _ => 0) ⟨#[], wArgs, []⟩).variablesRefB Tryf.prog = true := by kernel_rfl
set_option maxRecDepth 100000 in
theorem wit2 (os : Os) : (((laidW os).forCall (fun _ _ => 0) ⟨#[], wArgs, []⟩).heap.toList.drop Tryf.prog.globals.size).take ((begin Tryf.prog (fun _ _ => 0) default).world.heap.size - Tryf.prog.globals.size) = (begin Tryf.prog (fun _ _ => 0) default).world.heap.toList.drop Tryf.prog.globals.size := by kernel_rfl
set_option maxRecDepth 100000 in
theorem wit3 (os : Os) : Input.okWideB Tryf.prog ((laidW os).forCall (fun _ _ => 0) ⟨#[], wArgs, []⟩) 14 ⟨#[], wArgs, []⟩ = true := by kernel_rfl
set_option maxRecDepth 100000 in
theorem lifted (os : Os) (started : os.Started) (H : Type) (enc : TypeId × Value → H) :
    ReturnsInTold none {} Tryf.checked os 14 .any Input.okWide ((OpenSpec.ofChange Rows.fnClassXdigitSpec).preRow enc Tryf.prog Tryf.f14 Rows.fnClassXdigitRow.domain false Rows.fnClassXdigitRow.laid) (fun F => ((OpenSpec.ofChange Rows.fnClassXdigitSpec).at F).post enc Tryf.prog Tryf.f14 false true false false) (aloneAtReturn Tryf.prog) nothingAlways := by
  obtain ⟨places, hx⟩ := reads os enc
  refine returnsInTold_of_row (C := Tryf.checked) (s := OpenSpec.ofChange Rows.fnClassXdigitSpec) card.mayEnter card.own started (by kernel_rfl) Tryf.func14
    (OpenSpec.witness_stopped_atRef (enc := enc) (C := Tryf.checked) false (laidW os) #[.int .u8 0] rfl (wit1 os) (wit2 os) (wit3 os)
      (OpenSpec.preRow_of_cond 8 hx (by kernel_rfl) (fun k hk => by cases hk) (by kernel_rfl) (laidW_met os _))) ?_
  intro F W base args ds gs before _ hF hval0 hW _ _ _ hL _
  have hval : ∀ (j : Nat) t v, Tryf.f14.params[j]? = some t → args[j]? = some v → Value.okWide Tryf.prog W .any base t v := hval0
  have hW' := hW
  obtain ⟨p, q, hA0, hV, rfl, hfz, hnd⟩ := hW
  have hA : DataW.TrodAll enc Tryf.prog W 0 (fun _ => true) true Tryf.f14.params.toList args.toList ds p := hA0
  rw [Tryf.params14] at hA hval
  obtain ⟨v0, vs0, d0, ds0, p0, q0, hargs, rfl, rfl, h0, r0⟩ := trodAll_cons hA
  obtain ⟨rfl, rfl, rfl⟩ := trodAll_nil r0
  obtain rfl : args = #[v0] := by cases args; simp_all
  have hV2 := hV
  obtain ⟨g0, g1, rfl⟩ : ∃ g0 g1, gs = [g0, g1] := by
    cases gs with
    | nil => cases hV
    | cons g0 gr =>
      cases gr with
      | nil =>
        obtain ⟨_, _, _, _, _, _, _, _, _, _, h5, _⟩ := hV
        cases h5
      | cons g1 gr2 =>
        obtain ⟨_, _, _, _, _, _, _, _, _, _, h5, _⟩ := hV
        obtain ⟨_, _, _, _, _, _, _, _, _, _, h6, _⟩ := h5
        obtain ⟨rfl, _⟩ := trodVars_none h6
        exact ⟨g0, g1, rfl⟩
  obtain ⟨a0, rfl, rfl, rfl, w0⟩ := open_int Tryf.underlying5 (hval 0 5 v0 rfl rfl) h0
  clear hA0 hval0
  obtain ⟨pe, hlw⟩ := lw_of (F := F.told) (show laidMetH Tryf.prog laidAll W from hL) hF
  refine (walk_FnClassXdigit F.told pe a0 W hlw (wf_b w0)).mono fun e W' ⟨he, bel⟩ => ?_
  subst he
  have hV3 := trodVars_below bel (ns := Rows.fnClassXdigitSpec.vars) (fun m hm g hg => by
    have hm2 : m = "loop.example/pub-shellpatterns/spec.classNames" ∨ m = "loop.example/pub-shellpatterns/spec.ranges" := by simpa [Rows.fnClassXdigitSpec] using hm
    rcases hm2 with e | e
    · subst e
      obtain rfl := Option.some.inj (gN0.symm.trans hg)
      exact tN0
    · subst e
      obtain rfl := Option.some.inj (gN1.symm.trans hg)
      exact tN1) hV2
  exact ⟨_, rfl, _, _, _, [], _, _, hW', trodAll_mk1 (shut_bool Tryf.underlying4 _), (trodAll_cons_mk (shut_int Tryf.underlying5 w0) trodAll_mk0), hV3, bel.frame _, fun h => by cases h⟩

theorem c_hw : Rows.fnClassXdigitRow.wfByText (OpenSpec.ofChange Rows.fnClassXdigitSpec) = true := by kernel_rfl
theorem c_tie : namedTie Tryf.pinned.checked.prog Rows.fnClassXdigitRow.namedList (OpenSpec.ofChange Rows.fnClassXdigitSpec).vars = true := by kernel_rfl
theorem c_fn : Tryf.pinned.checked.prog.funcNamed Rows.fnClassXdigitRow.func = some 14 := by kernel_rfl
theorem c_r : (Tryf.f14.params.toList.all fun t => Tryf.pinned.checked.prog.readableRec t) = true := by kernel_rfl
theorem c_inst : decide (Tryf.f14.isInstance Tryf.pinned.checked.prog Rows.fnClassXdigitRow.origin Rows.fnClassXdigitRow.targs) = true := by kernel_rfl
theorem c_in : Rows.fnClassXdigitRow.inPlace = Tryf.pinned.checked.prog.inPlace 14 := by kernel_rfl
theorem c_op : Rows.fnClassXdigitRow.unfollowed = Tryf.pinned.checked.prog.unfollowed 14 := by kernel_rfl
theorem c_rc : Rows.fnClassXdigitRow.recurses = Tryf.pinned.checked.prog.recurses 14 := by kernel_rfl
theorem c_vs : Rows.fnClassXdigitRow.named = Tryf.pinned.checked.prog.varsNamed 14 := by kernel_rfl
theorem c_mp : Rows.fnClassXdigitRow.maps = (Tryf.f14.params.toList ++ (OpenSpec.ofChange Rows.fnClassXdigitSpec).bare.plain.varTypes Tryf.pinned.checked.prog).any (Tryf.pinned.checked.prog.mapsRec ·) := by kernel_rfl
theorem c_if : Rows.fnClassXdigitRow.ifaces = (Tryf.f14.params.toList ++ (OpenSpec.ofChange Rows.fnClassXdigitSpec).bare.plain.varTypes Tryf.pinned.checked.prog).any (Tryf.pinned.checked.prog.ifacesRec ·) := by kernel_rfl
theorem c_mo : Rows.fnClassXdigitRow.mapsOut = Tryf.pinned.checked.prog.mapsAmong Tryf.f14.resultTypes.toList := by kernel_rfl
theorem c_lo : Rows.fnClassXdigitRow.loops = (Tryf.f14.params.toList ++ (OpenSpec.ofChange Rows.fnClassXdigitSpec).bare.plain.varTypes Tryf.pinned.checked.prog).any (Tryf.pinned.checked.prog.loopsFrom ·) := by kernel_rfl
theorem c_wk : Rows.fnClassXdigitRow.wideKeys = (Tryf.f14.params.toList ++ (OpenSpec.ofChange Rows.fnClassXdigitSpec).bare.plain.varTypes Tryf.pinned.checked.prog ++ Tryf.f14.resultTypes.toList).any (Tryf.pinned.checked.prog.wideKeysFrom ·) := by kernel_rfl
theorem c_vars : ((OpenSpec.ofChange Rows.fnClassXdigitSpec).vars.all fun n => Tryf.pinned.checked.prog.varReadable n) = true := by kernel_rfl
theorem c_fun : (Tryf.f14.params.toList.all fun t => !Tryf.pinned.checked.prog.wantsStandIn t) = true := by kernel_rfl
theorem c_goes : false = Rows.fnClassXdigitRow.goesBy Tryf.pinned.checked.prog := by kernel_rfl
theorem c_res : (Tryf.f14.resultTypes.toList.all fun t => Tryf.pinned.checked.prog.readableRec t && decide (t < Tryf.pinned.checked.prog.types.size)) = true := by kernel_rfl
theorem c_io : Rows.fnClassXdigitRow.ifacesOut = Tryf.f14.resultTypes.toList.any (Tryf.pinned.checked.prog.ifacesRec ·) := by kernel_rfl
theorem c_lpo : Rows.fnClassXdigitRow.loopsOut = Tryf.f14.resultTypes.toList.any (Tryf.pinned.checked.prog.loopsFrom ·) := by kernel_rfl
theorem c_v1 : Rows.fnClassXdigitRow.veiled = (Tryf.f14.params.toList ++ (OpenSpec.ofChange Rows.fnClassXdigitSpec).bare.plain.varTypes Tryf.pinned.checked.prog ++ Tryf.f14.resultTypes.toList).any (Tryf.pinned.checked.prog.veiledRec ·) := by kernel_rfl
theorem c_v2 : Rows.fnClassXdigitRow.veiledFits Tryf.pinned.checked.prog Tryf.f14.params.toList (Tryf.f14.params.toList ++ (OpenSpec.ofChange Rows.fnClassXdigitSpec).bare.plain.varTypes Tryf.pinned.checked.prog ++ Tryf.f14.resultTypes.toList) = true := by kernel_rfl
theorem c_wrap : Tryf.f14.isWrapper Tryf.pinned.checked.prog Rows.fnClassXdigitRow.wrapper Rows.fnClassXdigitRow.mainSum := by
  unfold Func.isWrapper; first | (rw [if_pos (by decide +kernel)]; kernel_rfl) | (rw [if_neg (by decide +kernel)]; exact ⟨rfl, rfl⟩)
theorem c_more : Rows.fnClassXdigitRow.moreEntering Tryf.pinned.checked.prog Tryf.f14 := OpenClaim.moreEntering_of card.mayEnter c_res card.heard c_io c_lpo (by kernel_rfl) (by kernel_rfl) (show Rows.fnClassXdigitRow.plainKeys = _ from card.plainKeys) (show Rows.fnClassXdigitRow.lifted = _ from card.lifted) (show _ = some Rows.fnClassXdigitRow.make from card.make)
/-- THE STATEMENT -/
theorem proved : Rows.FnClassXdigitToldSaid :=
  Claim7.holds_of_told_tied_any_at .later 14 Tryf.f14 "fmt.Sprintf" ["fmt.errorf"] [] (true, "5a24f45af28d85a92cfa7d032e7df29d9afbee38f8c6455dcf83f33b4b6214fc") true false [.data, .handle, .sentinel, .data, .data, .pinned] true c_hw rfl rfl rfl laidOut card.rowed rfl ⟨rfl, rfl, rfl, rfl, rfl, rfl, rfl⟩ rfl rfl c_tie c_fn Tryf.func14 c_r
    (of_decide_eq_true c_inst) c_wrap card.stops.symm rfl card.stopKnobs.symm card.word
    c_in c_op c_rc c_vs c_mp c_if c_mo c_lo c_wk rfl c_vars rfl rfl
    rfl rfl
    rfl card.main card.looks c_fun (by decide) c_goes fnClassXdigit_row_tie
    c_more
    ⟨_, WideRow.started_initial, card.quiet _⟩
    (fun os started _ H enc _ => lifted os started H enc) ⟨c_v1, c_v2⟩
#print axioms proved
end Go.Proofs.YtonifkkdokaooaaFmt.fnClassXdigit
