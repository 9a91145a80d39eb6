/- Brackets with ! match just the bytes that those without it do not. The listed package-level variables hold what the program's text lays (tied); fmt's texts are told by the authors' function (tested, not proved from fmt's source). -/
import Derived.Test.YtpfgmiocdgfniaaGreatFmtP32
import Derived.Test.YtpfgmiocdgfniaaGreatFmtCardF
import Derived.Test.YtpfgmiocdgfniaaGreatFmtLawJ
import Derived.Test.YtpfgmiocdgfniaaGreatFmtP41
import Derived.OpenShut
import Derived.ShutString
import Derived.ChangeOld
import Derived.Below
import Derived.SevenTiedAt
namespace Go.Proofs.YtpfgmiocdgfniaaGreatFmt.fnRegexpNot
open Go.ChangeShapes Go.WideShapes Go.ChangeAt Go.RowKit Go.Extern.Stop Go.Stop Go.Extern
open Go.ChangeMaps (open_string shut_string)
set_option linter.unusedVariables false

theorem reads (os : Os) {H : Type} (enc : TypeId × Value → H) : ∃ places, DataW.whole enc Tryz.prog ((laidW os).forCall (fun _ _ => 0) ⟨#[], #[.slice none 0 0, .int .u8 0], []⟩).memory Tryz.f5.params.toList Rows.fnRegexpNotSpec.vars false (#[Value.slice none 0 0, Value.int .u8 0] : Array Value).toList 8 = some ([.nil, .lit (.int .u8 0)], [Rows.laid_loop_example_pub_shellpatterns_spec_classNames, Rows.laid_loop_example_pub_shellpatterns_spec_ranges], places) := by
  have h : (DataW.whole enc Tryz.prog ((laidW os).forCall (fun _ _ => 0) ⟨#[], #[.slice none 0 0, .int .u8 0], []⟩).memory Tryz.f5.params.toList Rows.fnRegexpNotSpec.vars false (#[Value.slice none 0 0, Value.int .u8 0] : Array Value).toList 8).map (fun x => (x.1, x.2.1)) = some ([.nil, .lit (.int .u8 0)], [Rows.laid_loop_example_pub_shellpatterns_spec_classNames, Rows.laid_loop_example_pub_shellpatterns_spec_ranges]) := by kernel_rfl
  obtain ⟨⟨x1, x2, x3⟩, hx, he⟩ := Option.map_eq_some_iff.1 h
  simp only [Prod.mk.injEq] at he
  obtain ⟨rfl, rfl⟩ := he
  exact ⟨x3, hx⟩
theorem gN0 : Tryz.prog.globalNamed "loop.example/pub-shellpatterns/spec.classNames" = some 0 := by kernel_rfl
theorem gN1 : Tryz.prog.globalNamed "loop.example/pub-shellpatterns/spec.ranges" = some 3 := by kernel_rfl
theorem tN0 : (Tryz.prog.globals[0]?).map (·.type) = some 73 := by kernel_rfl
theorem tN1 : (Tryz.prog.globals[3]?).map (·.type) = some 73 := by kernel_rfl

noncomputable abbrev wArgs : Array Value := #[.slice none 0 0, .int .u8 0]
set_option maxRecDepth 100000 in
theorem wit1 (os : Os) : ((laidW os).forCall (fun _ _ => 0) ⟨#[], wArgs, []⟩).variablesRefB Tryz.prog = true := by kernel_rfl
set_option maxRecDepth 100000 in
theorem wit2 (os : Os) : (((laidW os).forCall (fun _ _ => 0) ⟨#[], wArgs, []⟩).heap.toList.drop Tryz.prog.globals.size).take ((begin Tryz.prog (fun _ _ => 0) default).world.heap.size - Tryz.prog.globals.size) = (begin Tryz.prog (fun _ _ => 0) default).world.heap.toList.drop Tryz.prog.globals.size := by kernel_rfl
set_option maxRecDepth 100000 in
theorem wit3 (os : Os) : Input.okWideB Tryz.prog ((laidW os).forCall (fun _ _ => 0) ⟨#[], wArgs, []⟩) 5 ⟨#[], wArgs, []⟩ = true := by kernel_rfl
set_option maxRecDepth 100000 in
theorem lifted (os : Os) (started : os.Started) (H : Type) (enc : TypeId × Value → H) :
    ReturnsInTold none {} Tryz.checked os 5 .any Input.okWide ((OpenSpec.ofChange Rows.fnRegexpNotSpec).preRow enc Tryz.prog Tryz.f5 Rows.fnRegexpNotRow.domain false Rows.fnRegexpNotRow.laid) (fun F => ((OpenSpec.ofChange Rows.fnRegexpNotSpec).at F).post enc Tryz.prog Tryz.f5 false true false false) (aloneAtReturn Tryz.prog) nothingAlways := by
  obtain ⟨places, hx⟩ := reads os enc
  refine returnsInTold_of_row (C := Tryz.checked) (s := OpenSpec.ofChange Rows.fnRegexpNotSpec) card.mayEnter card.own started (by kernel_rfl) Tryz.func5
    (OpenSpec.witness_stopped_atRef (enc := enc) (C := Tryz.checked) false (laidW os) #[.slice none 0 0, .int .u8 0] rfl (wit1 os) (wit2 os) (wit3 os)
      (OpenSpec.preRow_of_cond 8 hx (by kernel_rfl) (fun k hk => by cases hk) (by kernel_rfl) (laidW_met os _))) ?_
  intro F W base args ds gs before _ hF hval0 hW _ _ _ hL _
  have hval : ∀ (j : Nat) t v, Tryz.f5.params[j]? = some t → args[j]? = some v → Value.okWide Tryz.prog W .any base t v := hval0
  have hW' := hW
  obtain ⟨p, q, hA0, hV, rfl, hfz, hnd⟩ := hW
  have hA : DataW.TrodAll enc Tryz.prog W 0 (fun _ => true) true Tryz.f5.params.toList args.toList ds p := hA0
  have hlt : ∀ x ∈ p, x.block < W.heap.size := DataW.TrodAll.lt hA
  rw [Tryz.params5] at hA hval
  obtain ⟨v0, vs0, d0, ds0, p0, q0, hargs, rfl, rfl, h0, r0⟩ := trodAll_cons hA
  obtain ⟨v1, vs1, d1, ds1, p1, q1, rfl, rfl, rfl, h1, r1⟩ := trodAll_cons r0
  obtain ⟨rfl, rfl, rfl⟩ := trodAll_nil r1
  obtain rfl : args = #[v0, v1] := by cases args; simp_all
  have hV2 := hV
  obtain ⟨g0, g1, rfl⟩ : ∃ g0 g1, gs = [g0, g1] := by
    cases gs with
    | nil => cases hV
    | cons g0 gr =>
      cases gr with
      | nil =>
        obtain ⟨_, _, _, _, _, _, _, _, _, _, h5, _⟩ := hV
        cases h5
      | cons g1 gr2 =>
        obtain ⟨_, _, _, _, _, _, _, _, _, _, h5, _⟩ := hV
        obtain ⟨_, _, _, _, _, _, _, _, _, _, h6, _⟩ := h5
        obtain ⟨rfl, _⟩ := trodVars_none h6
        exact ⟨g0, g1, rfl⟩
  have k0 := h0
  obtain ⟨u0, hf0⟩ := h0
  obtain ⟨a0, l0, c0, rfl⟩ := okWide_slice Tryz.underlying38 (hval 0 38 v0 rfl rfl)
  have w0 : l0 ≤ 2147483647 → ∃ its : List It, its.length = l0 ∧ ItemsAt W (.slice a0 l0 c0) its := by
    obtain ⟨_, _, _, hv, hw⟩ := open_items0 (show DataW.trod enc Tryz.prog W 0 (fun _ => true) true u0 38 [.slice a0 l0 c0] = some (d0, p0) from hf0)
    cases hv
    exact hw
  obtain ⟨a1, rfl, rfl, rfl, w1⟩ := open_int Tryz.underlying5 (hval 1 5 v1 rfl rfl) h1
  clear hA0 hval0
  obtain ⟨pe, hlw⟩ := lw_of (F := F.told) (show laidMetH Tryz.prog laidAll W from hL) hF
  refine (walk_FnRegexpNot F.told pe a0 l0 c0 a1 W hlw w0 (wf_b w1)).mono fun e W' ⟨he, bel⟩ => ?_
  subst he
  have hV3 := trodVars_below bel (ns := Rows.fnRegexpNotSpec.vars) (fun m hm g hg => by
    have hm2 : m = "loop.example/pub-shellpatterns/spec.classNames" ∨ m = "loop.example/pub-shellpatterns/spec.ranges" := by simpa [Rows.fnRegexpNotSpec] using hm
    rcases hm2 with e | e
    · subst e
      obtain rfl := Option.some.inj (gN0.symm.trans hg)
      exact tN0
    · subst e
      obtain rfl := Option.some.inj (gN1.symm.trans hg)
      exact tN1) hV2
  exact ⟨_, rfl, _, _, _, [], _, _, hW', trodAll_mk1 (shut_bool Tryz.underlying4 _), (trodAll_cons_mk (Below.trod laidOut (by kernel_rfl) (of_decide_eq_true (by kernel_rfl)) k0 bel (fun x hx => hlt x (by simp [hx]))) (trodAll_cons_mk (shut_int Tryz.underlying5 w1) trodAll_mk0)), hV3, bel.frame _, fun h => by cases h⟩

theorem c_hw : Rows.fnRegexpNotRow.wfByText (OpenSpec.ofChange Rows.fnRegexpNotSpec) = true := by kernel_rfl
theorem c_tie : namedTie Tryz.pinned.checked.prog Rows.fnRegexpNotRow.namedList (OpenSpec.ofChange Rows.fnRegexpNotSpec).vars = true := by kernel_rfl
theorem c_fn : Tryz.pinned.checked.prog.funcNamed Rows.fnRegexpNotRow.func = some 5 := by kernel_rfl
theorem c_r : (Tryz.f5.params.toList.all fun t => Tryz.pinned.checked.prog.readableRec t) = true := by kernel_rfl
theorem c_inst : decide (Tryz.f5.isInstance Tryz.pinned.checked.prog Rows.fnRegexpNotRow.origin Rows.fnRegexpNotRow.targs) = true := by kernel_rfl
theorem c_in : Rows.fnRegexpNotRow.inPlace = Tryz.pinned.checked.prog.inPlace 5 := by kernel_rfl
theorem c_op : Rows.fnRegexpNotRow.unfollowed = Tryz.pinned.checked.prog.unfollowed 5 := by kernel_rfl
theorem c_rc : Rows.fnRegexpNotRow.recurses = Tryz.pinned.checked.prog.recurses 5 := by kernel_rfl
theorem c_vs : Rows.fnRegexpNotRow.named = Tryz.pinned.checked.prog.varsNamed 5 := by kernel_rfl
theorem c_mp : Rows.fnRegexpNotRow.maps = (Tryz.f5.params.toList ++ (OpenSpec.ofChange Rows.fnRegexpNotSpec).bare.plain.varTypes Tryz.pinned.checked.prog).any (Tryz.pinned.checked.prog.mapsRec ·) := by kernel_rfl
theorem c_if : Rows.fnRegexpNotRow.ifaces = (Tryz.f5.params.toList ++ (OpenSpec.ofChange Rows.fnRegexpNotSpec).bare.plain.varTypes Tryz.pinned.checked.prog).any (Tryz.pinned.checked.prog.ifacesRec ·) := by kernel_rfl
theorem c_mo : Rows.fnRegexpNotRow.mapsOut = Tryz.pinned.checked.prog.mapsAmong Tryz.f5.resultTypes.toList := by kernel_rfl
theorem c_lo : Rows.fnRegexpNotRow.loops = (Tryz.f5.params.toList ++ (OpenSpec.ofChange Rows.fnRegexpNotSpec).bare.plain.varTypes Tryz.pinned.checked.prog).any (Tryz.pinned.checked.prog.loopsFrom ·) := by kernel_rfl
theorem c_wk : Rows.fnRegexpNotRow.wideKeys = (Tryz.f5.params.toList ++ (OpenSpec.ofChange Rows.fnRegexpNotSpec).bare.plain.varTypes Tryz.pinned.checked.prog ++ Tryz.f5.resultTypes.toList).any (Tryz.pinned.checked.prog.wideKeysFrom ·) := by kernel_rfl
theorem c_vars : ((OpenSpec.ofChange Rows.fnRegexpNotSpec).vars.all fun n => Tryz.pinned.checked.prog.varReadable n) = true := by kernel_rfl
theorem c_fun : (Tryz.f5.params.toList.all fun t => !Tryz.pinned.checked.prog.wantsStandIn t) = true := by kernel_rfl
theorem c_goes : false = Rows.fnRegexpNotRow.goesBy Tryz.pinned.checked.prog := by kernel_rfl
theorem c_res : (Tryz.f5.resultTypes.toList.all fun t => Tryz.pinned.checked.prog.readableRec t && decide (t < Tryz.pinned.checked.prog.types.size)) = true := by kernel_rfl
theorem c_io : Rows.fnRegexpNotRow.ifacesOut = Tryz.f5.resultTypes.toList.any (Tryz.pinned.checked.prog.ifacesRec ·) := by kernel_rfl
theorem c_lpo : Rows.fnRegexpNotRow.loopsOut = Tryz.f5.resultTypes.toList.any (Tryz.pinned.checked.prog.loopsFrom ·) := by kernel_rfl
theorem c_v1 : Rows.fnRegexpNotRow.veiled = (Tryz.f5.params.toList ++ (OpenSpec.ofChange Rows.fnRegexpNotSpec).bare.plain.varTypes Tryz.pinned.checked.prog ++ Tryz.f5.resultTypes.toList).any (Tryz.pinned.checked.prog.veiledRec ·) := by kernel_rfl
theorem c_v2 : Rows.fnRegexpNotRow.veiledFits Tryz.pinned.checked.prog Tryz.f5.params.toList (Tryz.f5.params.toList ++ (OpenSpec.ofChange Rows.fnRegexpNotSpec).bare.plain.varTypes Tryz.pinned.checked.prog ++ Tryz.f5.resultTypes.toList) = true := by kernel_rfl
theorem c_wrap : Tryz.f5.isWrapper Tryz.pinned.checked.prog Rows.fnRegexpNotRow.wrapper Rows.fnRegexpNotRow.mainSum := by
  unfold Func.isWrapper; first | (rw [if_pos (by decide +kernel)]; kernel_rfl) | (rw [if_neg (by decide +kernel)]; exact ⟨rfl, rfl⟩)
theorem c_more : Rows.fnRegexpNotRow.moreEntering Tryz.pinned.checked.prog Tryz.f5 := OpenClaim.moreEntering_of card.mayEnter c_res card.heard c_io c_lpo (by kernel_rfl) (by kernel_rfl) (show Rows.fnRegexpNotRow.plainKeys = _ from card.plainKeys) (show Rows.fnRegexpNotRow.lifted = _ from card.lifted) (show _ = some Rows.fnRegexpNotRow.make from card.make)
/-- THE STATEMENT -/
theorem proved : Rows.FnRegexpNotToldSaid :=
  Claim7.holds_of_told_tied_any_at .later 5 Tryz.f5 "fmt.Sprintf" ["fmt.errorf"] [] (true, "76223f9938ea31f47b5c0311d17a61b8ad55bdc1aabde09ddada0c5eb8648c3d") true false [.data, .handle, .sentinel, .data, .data, .pinned] true c_hw rfl rfl rfl laidOut card.rowed rfl ⟨rfl, rfl, rfl, rfl, rfl, rfl, rfl⟩ rfl rfl c_tie c_fn Tryz.func5 c_r
    (of_decide_eq_true c_inst) c_wrap card.stops.symm rfl card.stopKnobs.symm card.word
    c_in c_op c_rc c_vs c_mp c_if c_mo c_lo c_wk rfl c_vars rfl rfl
    rfl rfl
    rfl card.main card.looks c_fun (by decide) c_goes fnRegexpNot_row_tie
    c_more
    ⟨_, WideRow.started_initial, card.quiet _⟩
    (fun os started _ H enc _ => lifted os started H enc) ⟨c_v1, c_v2⟩
#print axioms proved
end Go.Proofs.YtpfgmiocdgfniaaGreatFmt.fnRegexpNot
