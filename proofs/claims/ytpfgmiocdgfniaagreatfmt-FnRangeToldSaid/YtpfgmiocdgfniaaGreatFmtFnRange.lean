/- A range of letters or digits has just the bytes between its ends. The listed package-level variables hold what the program's text lays (tied); fmt's texts are told by the authors' function (tested, not proved from fmt's source). -/
import Derived.Test.YtpfgmiocdgfniaaGreatFmtP32
import Derived.Test.YtpfgmiocdgfniaaGreatFmtCardF
import Derived.Test.YtpfgmiocdgfniaaGreatFmtLawH
import Derived.OpenShut
import Derived.ShutString
import Derived.ChangeOld
import Derived.Below
import Derived.SevenTiedAt
namespace Go.Proofs.YtpfgmiocdgfniaaGreatFmt.fnRange
open Go.ChangeShapes Go.WideShapes Go.ChangeAt Go.RowKit Go.Extern.Stop Go.Stop Go.Extern
open Go.ChangeMaps (open_string shut_string)
set_option linter.unusedVariables false

theorem reads (os : Os) {H : Type} (enc : TypeId × Value → H) : ∃ places, DataW.whole enc Tryz.prog ((laidW os).forCall (fun _ _ => 0) ⟨#[], #[.int .u8 0, .int .u8 0, .int .u8 0], []⟩).memory Tryz.f4.params.toList Rows.fnRangeSpec.vars false (#[Value.int .u8 0, Value.int .u8 0, Value.int .u8 0] : Array Value).toList 8 = some ([.lit (.int .u8 0), .lit (.int .u8 0), .lit (.int .u8 0)], [Rows.laid_loop_example_pub_shellpatterns_spec_classNames, Rows.laid_loop_example_pub_shellpatterns_spec_ranges], places) := by
  have h : (DataW.whole enc Tryz.prog ((laidW os).forCall (fun _ _ => 0) ⟨#[], #[.int .u8 0, .int .u8 0, .int .u8 0], []⟩).memory Tryz.f4.params.toList Rows.fnRangeSpec.vars false (#[Value.int .u8 0, Value.int .u8 0, Value.int .u8 0] : Array Value).toList 8).map (fun x => (x.1, x.2.1)) = some ([.lit (.int .u8 0), .lit (.int .u8 0), .lit (.int .u8 0)], [Rows.laid_loop_example_pub_shellpatterns_spec_classNames, Rows.laid_loop_example_pub_shellpatterns_spec_ranges]) := by kernel_rfl
  obtain ⟨⟨x1, x2, x3⟩, hx, he⟩ := Option.map_eq_some_iff.1 h
  simp only [Prod.mk.injEq] at he
  obtain ⟨rfl, rfl⟩ := he
  exact ⟨x3, hx⟩
theorem gN0 : Tryz.prog.globalNamed "loop.example/pub-shellpatterns/spec.classNames" = some 0 := by kernel_rfl
theorem gN1 : Tryz.prog.globalNamed "loop.example/pub-shellpatterns/spec.ranges" = some 3 := by kernel_rfl
theorem tN0 : (Tryz.prog.globals[0]?).map (·.type) = some 73 := by kernel_rfl
theorem tN1 : (Tryz.prog.globals[3]?).map (·.type) = some 73 := by kernel_rfl

noncomputable abbrev wArgs : Array Value := #[.int .u8 0, .int .u8 0, .int .u8 0]
set_option maxRecDepth 100000 in
theorem wit1 (os : Os) : ((laidW os).forCall (fun _ _ => 0) ⟨#[], wArgs, []⟩).variablesRefB Tryz.prog = true := by kernel_rfl
set_option maxRecDepth 100000 in
theorem wit2 (os : Os) : (((laidW os).forCall (fun _ _ => 0) ⟨#[], wArgs, []⟩).heap.toList.drop Tryz.prog.globals.size).take ((begin Tryz.prog (fun _ _ => 0) default).world.heap.size - Tryz.prog.globals.size) = (begin Tryz.prog (fun _ _ => 0) default).world.heap.toList.drop Tryz.prog.globals.size := by kernel_rfl
set_option maxRecDepth 100000 in
theorem wit3 (os : Os) : Input.okWideB Tryz.prog ((laidW os).forCall (fun _ _ => 0) ⟨#[], wArgs, []⟩) 4 ⟨#[], wArgs, []⟩ = true := by kernel_rfl
set_option maxRecDepth 100000 in
theorem lifted (os : Os) (started : os.Started) (H : Type) (enc : TypeId × Value → H) :
    ReturnsInTold none {} Tryz.checked os 4 .any Input.okWide ((OpenSpec.ofChange Rows.fnRangeSpec).preRow enc Tryz.prog Tryz.f4 Rows.fnRangeRow.domain false Rows.fnRangeRow.laid) (fun F => ((OpenSpec.ofChange Rows.fnRangeSpec).at F).post enc Tryz.prog Tryz.f4 false true false false) (aloneAtReturn Tryz.prog) nothingAlways := by
  obtain ⟨places, hx⟩ := reads os enc
  refine returnsInTold_of_row (C := Tryz.checked) (s := OpenSpec.ofChange Rows.fnRangeSpec) card.mayEnter card.own started (by kernel_rfl) Tryz.func4
    (OpenSpec.witness_stopped_atRef (enc := enc) (C := Tryz.checked) false (laidW os) #[.int .u8 0, .int .u8 0, .int .u8 0] rfl (wit1 os) (wit2 os) (wit3 os)
      (OpenSpec.preRow_of_cond 8 hx (by kernel_rfl) (fun k hk => by cases hk) (by kernel_rfl) (laidW_met os _))) ?_
  intro F W base args ds gs before _ hF hval0 hW _ _ _ hL _
  have hval : ∀ (j : Nat) t v, Tryz.f4.params[j]? = some t → args[j]? = some v → Value.okWide Tryz.prog W .any base t v := hval0
  have hW' := hW
  obtain ⟨p, q, hA0, hV, rfl, hfz, hnd⟩ := hW
  have hA : DataW.TrodAll enc Tryz.prog W 0 (fun _ => true) true Tryz.f4.params.toList args.toList ds p := hA0
  rw [Tryz.params4] at hA hval
  obtain ⟨v0, vs0, d0, ds0, p0, q0, hargs, rfl, rfl, h0, r0⟩ := trodAll_cons hA
  obtain ⟨v1, vs1, d1, ds1, p1, q1, rfl, rfl, rfl, h1, r1⟩ := trodAll_cons r0
  obtain ⟨v2, vs2, d2, ds2, p2, q2, rfl, rfl, rfl, h2, r2⟩ := trodAll_cons r1
  obtain ⟨rfl, rfl, rfl⟩ := trodAll_nil r2
  obtain rfl : args = #[v0, v1, v2] := by cases args; simp_all
  have hV2 := hV
  obtain ⟨g0, g1, rfl⟩ : ∃ g0 g1, gs = [g0, g1] := by
    cases gs with
    | nil => cases hV
    | cons g0 gr =>
      cases gr with
      | nil =>
        obtain ⟨_, _, _, _, _, _, _, _, _, _, h5, _⟩ := hV
        cases h5
      | cons g1 gr2 =>
        obtain ⟨_, _, _, _, _, _, _, _, _, _, h5, _⟩ := hV
        obtain ⟨_, _, _, _, _, _, _, _, _, _, h6, _⟩ := h5
        obtain ⟨rfl, _⟩ := trodVars_none h6
        exact ⟨g0, g1, rfl⟩
  obtain ⟨a0, rfl, rfl, rfl, w0⟩ := open_int Tryz.underlying5 (hval 0 5 v0 rfl rfl) h0
  obtain ⟨a1, rfl, rfl, rfl, w1⟩ := open_int Tryz.underlying5 (hval 1 5 v1 rfl rfl) h1
  obtain ⟨a2, rfl, rfl, rfl, w2⟩ := open_int Tryz.underlying5 (hval 2 5 v2 rfl rfl) h2
  clear hA0 hval0
  obtain ⟨pe, hlw⟩ := lw_of (F := F.told) (show laidMetH Tryz.prog laidAll W from hL) hF
  refine (walk_FnRange F.told pe a0 a1 a2 W hlw (wf_b w0) (wf_b w1) (wf_b w2)).mono fun e W' ⟨he, bel⟩ => ?_
  subst he
  have hV3 := trodVars_below bel (ns := Rows.fnRangeSpec.vars) (fun m hm g hg => by
    have hm2 : m = "loop.example/pub-shellpatterns/spec.classNames" ∨ m = "loop.example/pub-shellpatterns/spec.ranges" := by simpa [Rows.fnRangeSpec] using hm
    rcases hm2 with e | e
    · subst e
      obtain rfl := Option.some.inj (gN0.symm.trans hg)
      exact tN0
    · subst e
      obtain rfl := Option.some.inj (gN1.symm.trans hg)
      exact tN1) hV2
  exact ⟨_, rfl, _, _, _, [], _, _, hW', trodAll_mk1 (shut_bool Tryz.underlying4 _), (trodAll_cons_mk (shut_int Tryz.underlying5 w0) (trodAll_cons_mk (shut_int Tryz.underlying5 w1) (trodAll_cons_mk (shut_int Tryz.underlying5 w2) trodAll_mk0))), hV3, bel.frame _, fun h => by cases h⟩

theorem c_hw : Rows.fnRangeRow.wfByText (OpenSpec.ofChange Rows.fnRangeSpec) = true := by kernel_rfl
theorem c_tie : namedTie Tryz.pinned.checked.prog Rows.fnRangeRow.namedList (OpenSpec.ofChange Rows.fnRangeSpec).vars = true := by kernel_rfl
theorem c_fn : Tryz.pinned.checked.prog.funcNamed Rows.fnRangeRow.func = some 4 := by kernel_rfl
theorem c_r : (Tryz.f4.params.toList.all fun t => Tryz.pinned.checked.prog.readableRec t) = true := by kernel_rfl
theorem c_inst : decide (Tryz.f4.isInstance Tryz.pinned.checked.prog Rows.fnRangeRow.origin Rows.fnRangeRow.targs) = true := by kernel_rfl
theorem c_in : Rows.fnRangeRow.inPlace = Tryz.pinned.checked.prog.inPlace 4 := by kernel_rfl
theorem c_op : Rows.fnRangeRow.unfollowed = Tryz.pinned.checked.prog.unfollowed 4 := by kernel_rfl
theorem c_rc : Rows.fnRangeRow.recurses = Tryz.pinned.checked.prog.recurses 4 := by kernel_rfl
theorem c_vs : Rows.fnRangeRow.named = Tryz.pinned.checked.prog.varsNamed 4 := by kernel_rfl
theorem c_mp : Rows.fnRangeRow.maps = (Tryz.f4.params.toList ++ (OpenSpec.ofChange Rows.fnRangeSpec).bare.plain.varTypes Tryz.pinned.checked.prog).any (Tryz.pinned.checked.prog.mapsRec ·) := by kernel_rfl
theorem c_if : Rows.fnRangeRow.ifaces = (Tryz.f4.params.toList ++ (OpenSpec.ofChange Rows.fnRangeSpec).bare.plain.varTypes Tryz.pinned.checked.prog).any (Tryz.pinned.checked.prog.ifacesRec ·) := by kernel_rfl
theorem c_mo : Rows.fnRangeRow.mapsOut = Tryz.pinned.checked.prog.mapsAmong Tryz.f4.resultTypes.toList := by kernel_rfl
theorem c_lo : Rows.fnRangeRow.loops = (Tryz.f4.params.toList ++ (OpenSpec.ofChange Rows.fnRangeSpec).bare.plain.varTypes Tryz.pinned.checked.prog).any (Tryz.pinned.checked.prog.loopsFrom ·) := by kernel_rfl
theorem c_wk : Rows.fnRangeRow.wideKeys = (Tryz.f4.params.toList ++ (OpenSpec.ofChange Rows.fnRangeSpec).bare.plain.varTypes Tryz.pinned.checked.prog ++ Tryz.f4.resultTypes.toList).any (Tryz.pinned.checked.prog.wideKeysFrom ·) := by kernel_rfl
theorem c_vars : ((OpenSpec.ofChange Rows.fnRangeSpec).vars.all fun n => Tryz.pinned.checked.prog.varReadable n) = true := by kernel_rfl
theorem c_fun : (Tryz.f4.params.toList.all fun t => !Tryz.pinned.checked.prog.wantsStandIn t) = true := by kernel_rfl
theorem c_goes : false = Rows.fnRangeRow.goesBy Tryz.pinned.checked.prog := by kernel_rfl
theorem c_res : (Tryz.f4.resultTypes.toList.all fun t => Tryz.pinned.checked.prog.readableRec t && decide (t < Tryz.pinned.checked.prog.types.size)) = true := by kernel_rfl
theorem c_io : Rows.fnRangeRow.ifacesOut = Tryz.f4.resultTypes.toList.any (Tryz.pinned.checked.prog.ifacesRec ·) := by kernel_rfl
theorem c_lpo : Rows.fnRangeRow.loopsOut = Tryz.f4.resultTypes.toList.any (Tryz.pinned.checked.prog.loopsFrom ·) := by kernel_rfl
theorem c_v1 : Rows.fnRangeRow.veiled = (Tryz.f4.params.toList ++ (OpenSpec.ofChange Rows.fnRangeSpec).bare.plain.varTypes Tryz.pinned.checked.prog ++ Tryz.f4.resultTypes.toList).any (Tryz.pinned.checked.prog.veiledRec ·) := by kernel_rfl
theorem c_v2 : Rows.fnRangeRow.veiledFits Tryz.pinned.checked.prog Tryz.f4.params.toList (Tryz.f4.params.toList ++ (OpenSpec.ofChange Rows.fnRangeSpec).bare.plain.varTypes Tryz.pinned.checked.prog ++ Tryz.f4.resultTypes.toList) = true := by kernel_rfl
theorem c_wrap : Tryz.f4.isWrapper Tryz.pinned.checked.prog Rows.fnRangeRow.wrapper Rows.fnRangeRow.mainSum := by
  unfold Func.isWrapper; first | (rw [if_pos (by decide +kernel)]; kernel_rfl) | (rw [if_neg (by decide +kernel)]; exact ⟨rfl, rfl⟩)
theorem c_more : Rows.fnRangeRow.moreEntering Tryz.pinned.checked.prog Tryz.f4 := OpenClaim.moreEntering_of card.mayEnter c_res card.heard c_io c_lpo (by kernel_rfl) (by kernel_rfl) (show Rows.fnRangeRow.plainKeys = _ from card.plainKeys) (show Rows.fnRangeRow.lifted = _ from card.lifted) (show _ = some Rows.fnRangeRow.make from card.make)
/-- THE STATEMENT -/
theorem proved : Rows.FnRangeToldSaid :=
  Claim7.holds_of_told_tied_any_at .later 4 Tryz.f4 "fmt.Sprintf" ["fmt.errorf"] [] (true, "76223f9938ea31f47b5c0311d17a61b8ad55bdc1aabde09ddada0c5eb8648c3d") true false [.data, .handle, .sentinel, .data, .data, .pinned] true c_hw rfl rfl rfl laidOut card.rowed rfl ⟨rfl, rfl, rfl, rfl, rfl, rfl, rfl⟩ rfl rfl c_tie c_fn Tryz.func4 c_r
    (of_decide_eq_true c_inst) c_wrap card.stops.symm rfl card.stopKnobs.symm card.word
    c_in c_op c_rc c_vs c_mp c_if c_mo c_lo c_wk rfl c_vars rfl rfl
    rfl rfl
    rfl card.main card.looks c_fun (by decide) c_goes fnRange_row_tie
    c_more
    ⟨_, WideRow.started_initial, card.quiet _⟩
    (fun os started _ H enc _ => lifted os started H enc) ⟨c_v1, c_v2⟩
#print axioms proved
end Go.Proofs.YtpfgmiocdgfniaaGreatFmt.fnRange
