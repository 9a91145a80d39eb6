/- Two groups that are not to be matched are both told, in order: the law FnGroupNotTwo holds for every three texts. The listed package-level variables hold what the program's text lays (tied); fmt's texts are told by the authors' function (tested, not proved from fmt's source). -/
import Derived.Test.YtonifkkdokaooaaFmtP50
import Derived.Test.YtonifkkdokaooaaFmtCardF
import Derived.OpenShut
import Derived.ShutString
import Derived.ChangeOld
import Derived.Below
import Derived.SevenTiedAt
namespace Go.Proofs.YtonifkkdokaooaaFmt.fnGroupNotTwo
open Go.ChangeShapes Go.WideShapes Go.ChangeAt Go.RowKit Go.Extern.Stop Go.Stop Go.Extern
open Go.ChangeMaps (open_string shut_string)
set_option linter.unusedVariables false

theorem reads (os : Os) {H : Type} (enc : TypeId × Value → H) : ∃ places, DataW.whole enc Tryf.prog ((laidW os).forCall (fun _ _ => 0) ⟨#[], #[.string ⟨#[]⟩, .string ⟨#[]⟩, .string ⟨#[]⟩], []⟩).memory Tryf.f15.params.toList Rows.fnGroupNotTwoSpec.vars false (#[Value.string ⟨#[]⟩, Value.string ⟨#[]⟩, Value.string ⟨#[]⟩] : Array Value).toList 8 = some ([.lit (.string []), .lit (.string []), .lit (.string [])], [], places) := by
  have h : (DataW.whole enc Tryf.prog ((laidW os).forCall (fun _ _ => 0) ⟨#[], #[.string ⟨#[]⟩, .string ⟨#[]⟩, .string ⟨#[]⟩], []⟩).memory Tryf.f15.params.toList Rows.fnGroupNotTwoSpec.vars false (#[Value.string ⟨#[]⟩, Value.string ⟨#[]⟩, Value.string ⟨#[]⟩] : Array Value).toList 8).map (fun x => (x.1, x.2.1)) = some ([.lit (.string []), .lit (.string []), .lit (.string [])], []) := by kernel_rfl
  obtain ⟨⟨x1, x2, x3⟩, hx, he⟩ := Option.map_eq_some_iff.1 h
  simp only [Prod.mk.injEq] at he
  obtain ⟨rfl, rfl⟩ := he
  exact ⟨x3, hx⟩
noncomputable abbrev wArgs : Array Value := #[.string ⟨#[]⟩, .string ⟨#[]⟩, .string ⟨#[]⟩]
set_option maxRecDepth 100000 in
theorem wit1 (os : Os) : ((laidW os).forCall (fun _ _ => 0) ⟨#[], wArgs, []⟩).variablesRefB Tryf.prog = true := by kernel_rfl
set_option maxRecDepth 100000 in
theorem wit2 (os : Os) : (((laidW os).forCall (fun _ _ => 0) ⟨#[], wArgs, []⟩).heap.toList.drop Tryf.prog.globals.size).take ((begin Tryf.prog (fun _ _ => 0) default).world.heap.size - Tryf.prog.globals.size) = (begin Tryf.prog (fun _ _ => 0) default).world.heap.toList.drop Tryf.prog.globals.size := by kernel_rfl
set_option maxRecDepth 100000 in
theorem wit3 (os : Os) : Input.okWideB Tryf.prog ((laidW os).forCall (fun _ _ => 0) ⟨#[], wArgs, []⟩) 15 ⟨#[], wArgs, []⟩ = true := by kernel_rfl
set_option maxRecDepth 100000 in
theorem lifted (os : Os) (started : os.Started) (H : Type) (enc : TypeId × Value → H) :
    ReturnsInTold none {} Tryf.checked os 15 .any Input.okWide ((OpenSpec.ofChange Rows.fnGroupNotTwoSpec).preRow enc Tryf.prog Tryf.f15 Rows.fnGroupNotTwoRow.domain false Rows.fnGroupNotTwoRow.laid) (fun F => ((OpenSpec.ofChange Rows.fnGroupNotTwoSpec).at F).post enc Tryf.prog Tryf.f15 false true false false) (aloneAtReturn Tryf.prog) nothingAlways := by
  obtain ⟨places, hx⟩ := reads os enc
  refine returnsInTold_of_row (C := Tryf.checked) (s := OpenSpec.ofChange Rows.fnGroupNotTwoSpec) card.mayEnter card.own started (by kernel_rfl) Tryf.func15
    (OpenSpec.witness_stopped_atRef (enc := enc) (C := Tryf.checked) false (laidW os) #[.string ⟨#[]⟩, .string ⟨#[]⟩, .string ⟨#[]⟩] rfl (wit1 os) (wit2 os) (wit3 os)
      (OpenSpec.preRow_of_cond 8 hx (by kernel_rfl) (fun k hk => by cases hk) (by kernel_rfl) (laidW_met0 os _))) ?_
  intro F W base args ds gs before _ hF hval0 hW _ _ _ hL _
  have hval : ∀ (j : Nat) t v, Tryf.f15.params[j]? = some t → args[j]? = some v → Value.okWide Tryf.prog W .any base t v := hval0
  have hW' := hW
  obtain ⟨p, q, hA0, hV, rfl, hfz, hnd⟩ := hW
  have hA : DataW.TrodAll enc Tryf.prog W 0 (fun _ => true) true Tryf.f15.params.toList args.toList ds p := hA0
  rw [Tryf.params15] at hA hval
  obtain ⟨v0, vs0, d0, ds0, p0, q0, hargs, rfl, rfl, h0, r0⟩ := trodAll_cons hA
  obtain ⟨v1, vs1, d1, ds1, p1, q1, rfl, rfl, rfl, h1, r1⟩ := trodAll_cons r0
  obtain ⟨v2, vs2, d2, ds2, p2, q2, rfl, rfl, rfl, h2, r2⟩ := trodAll_cons r1
  obtain ⟨rfl, rfl, rfl⟩ := trodAll_nil r2
  obtain rfl : args = #[v0, v1, v2] := by cases args; simp_all
  have hV2 := hV
  obtain rfl : gs = [] := by
    cases gs with
    | nil => rfl
    | cons g gr => cases hV
  obtain ⟨a0, rfl, rfl, rfl, w0⟩ := open_string Tryf.underlying9 (hval 0 9 v0 rfl rfl) h0
  obtain ⟨a1, rfl, rfl, rfl, w1⟩ := open_string Tryf.underlying9 (hval 1 9 v1 rfl rfl) h1
  obtain ⟨a2, rfl, rfl, rfl, w2⟩ := open_string Tryf.underlying9 (hval 2 9 v2 rfl rfl) h2
  clear hA0 hval0
  obtain ⟨pe, hlw⟩ := lw_of0 (F := F.told) (show laidMetH Tryf.prog laidAll0 W from hL) hF
  refine (walk_FnGroupNotTwo F.told pe a0 a1 a2 W hlw w0 w1 w2).mono fun e W' ⟨he, bel⟩ => ?_
  subst he
  have hV3 := trodVars_below bel (ns := Rows.fnGroupNotTwoSpec.vars) (fun m hm g hg => by cases hm) hV2
  exact ⟨_, rfl, _, _, _, [], _, _, hW', trodAll_mk1 (shut_bool Tryf.underlying4 _), (trodAll_cons_mk (shut_string Tryf.underlying9 w0) (trodAll_cons_mk (shut_string Tryf.underlying9 w1) (trodAll_cons_mk (shut_string Tryf.underlying9 w2) trodAll_mk0))), hV3, bel.frame _, fun h => by cases h⟩

theorem c_hw : Rows.fnGroupNotTwoRow.wfByText (OpenSpec.ofChange Rows.fnGroupNotTwoSpec) = true := by kernel_rfl
theorem c_tie : namedTie Tryf.pinned.checked.prog Rows.fnGroupNotTwoRow.namedList (OpenSpec.ofChange Rows.fnGroupNotTwoSpec).vars = true := by kernel_rfl
theorem c_fn : Tryf.pinned.checked.prog.funcNamed Rows.fnGroupNotTwoRow.func = some 15 := by kernel_rfl
theorem c_r : (Tryf.f15.params.toList.all fun t => Tryf.pinned.checked.prog.readableRec t) = true := by kernel_rfl
theorem c_inst : decide (Tryf.f15.isInstance Tryf.pinned.checked.prog Rows.fnGroupNotTwoRow.origin Rows.fnGroupNotTwoRow.targs) = true := by kernel_rfl
theorem c_in : Rows.fnGroupNotTwoRow.inPlace = Tryf.pinned.checked.prog.inPlace 15 := by kernel_rfl
theorem c_op : Rows.fnGroupNotTwoRow.unfollowed = Tryf.pinned.checked.prog.unfollowed 15 := by kernel_rfl
theorem c_rc : Rows.fnGroupNotTwoRow.recurses = Tryf.pinned.checked.prog.recurses 15 := by kernel_rfl
theorem c_vs : Rows.fnGroupNotTwoRow.named = Tryf.pinned.checked.prog.varsNamed 15 := by kernel_rfl
theorem c_mp : Rows.fnGroupNotTwoRow.maps = (Tryf.f15.params.toList ++ (OpenSpec.ofChange Rows.fnGroupNotTwoSpec).bare.plain.varTypes Tryf.pinned.checked.prog).any (Tryf.pinned.checked.prog.mapsRec ·) := by kernel_rfl
theorem c_if : Rows.fnGroupNotTwoRow.ifaces = (Tryf.f15.params.toList ++ (OpenSpec.ofChange Rows.fnGroupNotTwoSpec).bare.plain.varTypes Tryf.pinned.checked.prog).any (Tryf.pinned.checked.prog.ifacesRec ·) := by kernel_rfl
theorem c_mo : Rows.fnGroupNotTwoRow.mapsOut = Tryf.pinned.checked.prog.mapsAmong Tryf.f15.resultTypes.toList := by kernel_rfl
theorem c_lo : Rows.fnGroupNotTwoRow.loops = (Tryf.f15.params.toList ++ (OpenSpec.ofChange Rows.fnGroupNotTwoSpec).bare.plain.varTypes Tryf.pinned.checked.prog).any (Tryf.pinned.checked.prog.loopsFrom ·) := by kernel_rfl
theorem c_wk : Rows.fnGroupNotTwoRow.wideKeys = (Tryf.f15.params.toList ++ (OpenSpec.ofChange Rows.fnGroupNotTwoSpec).bare.plain.varTypes Tryf.pinned.checked.prog ++ Tryf.f15.resultTypes.toList).any (Tryf.pinned.checked.prog.wideKeysFrom ·) := by kernel_rfl
theorem c_vars : ((OpenSpec.ofChange Rows.fnGroupNotTwoSpec).vars.all fun n => Tryf.pinned.checked.prog.varReadable n) = true := by kernel_rfl
theorem c_fun : (Tryf.f15.params.toList.all fun t => !Tryf.pinned.checked.prog.wantsStandIn t) = true := by kernel_rfl
theorem c_goes : false = Rows.fnGroupNotTwoRow.goesBy Tryf.pinned.checked.prog := by kernel_rfl
theorem c_res : (Tryf.f15.resultTypes.toList.all fun t => Tryf.pinned.checked.prog.readableRec t && decide (t < Tryf.pinned.checked.prog.types.size)) = true := by kernel_rfl
theorem c_io : Rows.fnGroupNotTwoRow.ifacesOut = Tryf.f15.resultTypes.toList.any (Tryf.pinned.checked.prog.ifacesRec ·) := by kernel_rfl
theorem c_lpo : Rows.fnGroupNotTwoRow.loopsOut = Tryf.f15.resultTypes.toList.any (Tryf.pinned.checked.prog.loopsFrom ·) := by kernel_rfl
theorem c_v1 : Rows.fnGroupNotTwoRow.veiled = (Tryf.f15.params.toList ++ (OpenSpec.ofChange Rows.fnGroupNotTwoSpec).bare.plain.varTypes Tryf.pinned.checked.prog ++ Tryf.f15.resultTypes.toList).any (Tryf.pinned.checked.prog.veiledRec ·) := by kernel_rfl
theorem c_v2 : Rows.fnGroupNotTwoRow.veiledFits Tryf.pinned.checked.prog Tryf.f15.params.toList (Tryf.f15.params.toList ++ (OpenSpec.ofChange Rows.fnGroupNotTwoSpec).bare.plain.varTypes Tryf.pinned.checked.prog ++ Tryf.f15.resultTypes.toList) = true := by kernel_rfl
theorem c_wrap : Tryf.f15.isWrapper Tryf.pinned.checked.prog Rows.fnGroupNotTwoRow.wrapper Rows.fnGroupNotTwoRow.mainSum := by
  unfold Func.isWrapper; first | (rw [if_pos (by decide +kernel)]; kernel_rfl) | (rw [if_neg (by decide +kernel)]; exact ⟨rfl, rfl⟩)
theorem c_more : Rows.fnGroupNotTwoRow.moreEntering Tryf.pinned.checked.prog Tryf.f15 := OpenClaim.moreEntering_of card.mayEnter c_res card.heard c_io c_lpo (by kernel_rfl) (by kernel_rfl) (show Rows.fnGroupNotTwoRow.plainKeys = _ from card.plainKeys) (show Rows.fnGroupNotTwoRow.lifted = _ from card.lifted) (show _ = some Rows.fnGroupNotTwoRow.make from card.make)
/-- THE STATEMENT -/
theorem proved : Rows.FnGroupNotTwoToldSaid :=
  Claim7.holds_of_told_tied_any_at .later 15 Tryf.f15 "fmt.Sprintf" ["fmt.errorf"] [] (true, "5a24f45af28d85a92cfa7d032e7df29d9afbee38f8c6455dcf83f33b4b6214fc") true false [.data, .handle, .sentinel, .pinned] true c_hw rfl rfl rfl laidOut card.rowed rfl ⟨rfl, rfl, rfl, rfl, rfl, rfl, rfl⟩ rfl rfl c_tie c_fn Tryf.func15 c_r
    (of_decide_eq_true c_inst) c_wrap card.stops.symm rfl card.stopKnobs.symm card.word
    c_in c_op c_rc c_vs c_mp c_if c_mo c_lo c_wk rfl c_vars rfl rfl
    rfl rfl
    rfl card.main card.looks c_fun (by decide) c_goes fnGroupNotTwo_row_tie
    c_more
    ⟨_, WideRow.started_initial, card.quiet _⟩
    (fun os started _ H enc _ => lifted os started H enc) ⟨c_v1, c_v2⟩
#print axioms proved
end Go.Proofs.YtonifkkdokaooaaFmt.fnGroupNotTwo
