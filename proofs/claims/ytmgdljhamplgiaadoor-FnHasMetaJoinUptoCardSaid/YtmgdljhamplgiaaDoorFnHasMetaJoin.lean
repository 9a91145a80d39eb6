/- Two patterns one behind the other have metacharacters just if one of them has: laws.FnHasMetaJoin returns true for every two lists of pieces, where what is read is of bulk at most 1048576. -/
import Derived.Test.YtmgdljhamplgiaaDoorCards
import Derived.Test.YtmgdljhamplgiaaDoorTie
import Derived.Test.YtmgdljhamplgiaaDoorLawsD
import Derived.Test.YtmgdljhamplgiaaDoorLaidN
import Derived.Test.YtmgdljhamplgiaaDoorOpenB
import Derived.OpenShut
import Derived.Deep.DeepHandedRow
import Derived.Deep.DeepWitnessRowRef
import Derived.LaidMore
import Derived.Below
namespace Go.Proofs.YtmgdljhamplgiaaDoor.fnHasMetaJoin
open Go.ChangeShapes Go.WideShapes Go.ChangeAt Go.RowKit
set_option linter.unusedVariables false

theorem own : ownKnob Tryd.prog.godebug = none := by kernel_rfl
theorem names {W : World} (h : laidMetH Tryd.prog Rows.fnHasMetaJoinUptoRow.laid W) : Names W := by
  rw [MakeChecks.laidMetH_plain _ _ _ (by kernel_rfl)] at h
  obtain ⟨ps, ⟨g0, t0, cs0, f0, p0, q0, hg0, ht0, hv0, hd0, _, _⟩, _, _⟩ := h
  obtain rfl := Option.some.inj (gNames.symm.trans hg0)
  obtain rfl := Option.some.inj (tNames.symm.trans ht0)
  exact strings_at Pat.names (by decide) hg0 hv0 hd0

theorem contract (H : Type) (enc : TypeId × Value → H) (W : World) (base : Nat) (args : Array Value) (ds gs : List (DataW H)) (before : List MemPlace)
    (hval0 : ∀ (j : Nat) t v, Tryd.f4.params[j]? = some t → args[j]? = some v → Value.okWide Tryd.prog W .any base t v)
    (hW : DataW.Whole enc Tryd.prog Tryd.f4.params.toList Rows.fnHasMetaJoinSpec.vars false W args.toList ds gs before) (hL : laidMetH Tryd.prog Rows.fnHasMetaJoinUptoRow.laid W) (hk : Rows.uptoSmall H (ds ++ gs) = true) :
    Calls Tryd.prog 4 args W fun e W' => ∃ v, e = .returned v ∧ Rows.fnHasMetaJoinSpec.post enc Tryd.prog Tryd.f4 false true false false W args v W' := by
  have hval : ∀ (j : Nat) t v, Tryd.f4.params[j]? = some t → args[j]? = some v → Value.okWide Tryd.prog W .any base t v := hval0
  have hW' := hW
  obtain ⟨p, q, hA0, hV, rfl, hfz, hnd⟩ := hW
  have hA : DataW.TrodAll enc Tryd.prog W 0 (fun _ => true) true Tryd.f4.params.toList args.toList ds p := hA0
  have hlt : ∀ x ∈ p, x.block < W.heap.size := DataW.TrodAll.lt hA
  rw [Tryd.params4] at hA hval
  obtain ⟨v0, vs0, d0, ds0, p0, q0, hargs, rfl, rfl, h0, r0⟩ := trodAll_cons hA
  obtain ⟨v1, vs1, d1, ds1, p1, q1, rfl, rfl, rfl, h1, r1⟩ := trodAll_cons r0
  obtain ⟨rfl, rfl, rfl⟩ := trodAll_nil r1
  obtain rfl : args = #[v0, v1] := by cases args; simp_all
  have hB : Rows.uptoBulkAll ([d0, d1] ++ gs) ≤ 1048576 := of_decide_eq_true hk
  simp only [List.cons_append, List.nil_append, Rows.uptoBulkAll] at hB
  obtain ⟨a0, l0, c0, rfl⟩ := okWide_slice Tryd.underlying22 (hval 0 22 v0 rfl rfl)
  have k0 := h0
  obtain ⟨u0, hf0⟩ := h0
  obtain ⟨ps0, hp0, hl0⟩ := open_pieces u0 u0 _ _ (Nat.le_refl _) (show DataW.trod enc Tryd.prog W 0 (fun _ => true) true u0 22 [.slice a0 l0 c0] = some (d0, p0) from hf0) (by dsimp only; omega)
  dsimp only at hl0
  obtain ⟨a1, l1, c1, rfl⟩ := okWide_slice Tryd.underlying22 (hval 1 22 v1 rfl rfl)
  have k1 := h1
  obtain ⟨u1, hf1⟩ := h1
  obtain ⟨ps1, hp1, hl1⟩ := open_pieces u1 u1 _ _ (Nat.le_refl _) (show DataW.trod enc Tryd.prog W 0 (fun _ => true) true u1 22 [.slice a1 l1 c1] = some (d1, p1) from hf1) (by dsimp only; omega)
  dsimp only at hl1
  refine (walk_FnHasMetaJoin u0 u1 ps0 ps1 _ _ W hp0 hp1 (names hL) (by omega) (by omega)).mono fun e W' ⟨he, bel⟩ => ?_
  subst he
  have hV2 := trodVars_below bel (ns := Rows.fnHasMetaJoinSpec.vars) (fun m hm g hg => by
    have e : m = "loop.example/pub-shellpatterns/spec.classNames" := List.mem_singleton.1 hm
    subst e
    obtain rfl := Option.some.inj (gNames.symm.trans hg)
    exact tNames) hV
  obtain ⟨g0, rfl⟩ : ∃ g0, gs = [g0] := by
    cases gs with
    | nil => cases hV
    | cons g0 gr =>
      obtain ⟨_, _, _, _, _, _, _, _, _, _, h5, _⟩ := hV
      obtain ⟨rfl, _⟩ := trodVars_none h5
      exact ⟨g0, rfl⟩
  exact ⟨_, rfl, _, _, _, [], _, _, hW', trodAll_mk1 (shut_bool Tryd.underlying4 _), (trodAll_cons_mk (Below.trod laidOut (by kernel_rfl) (of_decide_eq_true (by kernel_rfl)) k0 bel (fun x hx => hlt x (by simp [hx]))) (trodAll_cons_mk (Below.trod laidOut (by kernel_rfl) (of_decide_eq_true (by kernel_rfl)) k1 bel (fun x hx => hlt x (by simp [hx]))) trodAll_mk0)), hV2, bel.frame _, fun h => by cases h⟩

theorem laid_met (os : Os) (args : Array Value) : laidMetH Tryd.prog Rows.fnHasMetaJoinUptoRow.laid ((World.doorLaid Tryd.prog 400 os).forCall (fun _ _ => 0) ⟨#[], args, []⟩).memory := by
  rw [MakeChecks.laidMetH_plain _ _ _ (by kernel_rfl)]
  exact laidMet_of_run' 8 (by kernel_rfl) (by kernel_rfl)
theorem reads (os : Os) {H : Type} (enc : TypeId × Value → H) : ∃ places, DataW.whole enc Tryd.prog ((World.doorLaid Tryd.prog 400 os).forCall (fun _ _ => 0) ⟨#[], #[.slice none 0 0, .slice none 0 0], []⟩).memory Tryd.f4.params.toList Rows.fnHasMetaJoinSpec.vars false (#[.slice none 0 0, .slice none 0 0] : Array Value).toList 8 = some ([.nil, .nil], [Rows.laid_loop_example_pub_shellpatterns_spec_classNames], places) := by
  have h : (DataW.whole enc Tryd.prog ((World.doorLaid Tryd.prog 400 os).forCall (fun _ _ => 0) ⟨#[], #[.slice none 0 0, .slice none 0 0], []⟩).memory Tryd.f4.params.toList Rows.fnHasMetaJoinSpec.vars false (#[.slice none 0 0, .slice none 0 0] : Array Value).toList 8).map (fun x => (x.1, x.2.1)) = some ([.nil, .nil], [Rows.laid_loop_example_pub_shellpatterns_spec_classNames]) := by kernel_rfl
  obtain ⟨⟨x1, x2, x3⟩, hx, he⟩ := Option.map_eq_some_iff.1 h
  simp only [Prod.mk.injEq] at he
  obtain ⟨rfl, rfl⟩ := he
  exact ⟨x3, hx⟩

set_option maxRecDepth 100000 in
theorem lifted (os : Os) (started : os.Started) (H : Type) (enc : TypeId × Value → H) (F : Stop.Interp) :
    ReturnsInHanded {} Tryd.checked os 4 .any ((Rows.OpenSpec.upto Rows.fnHasMetaJoinSpec).preRow enc Tryd.prog Tryd.f4 Rows.fnHasMetaJoinUptoRow.domain false Rows.fnHasMetaJoinUptoRow.laid) (((Rows.OpenSpec.upto Rows.fnHasMetaJoinSpec).at F).post enc Tryd.prog Tryd.f4 false true false false) := by
  obtain ⟨places, hx⟩ := reads os enc
  refine returnsInHanded_of_row (C := Tryd.checked) (s := Rows.OpenSpec.upto Rows.fnHasMetaJoinSpec) own started (by kernel_rfl) Tryd.func4
    (witness_row_atRef (enc := enc) (C := Tryd.checked) false (World.doorLaid Tryd.prog 400 os) #[.slice none 0 0, .slice none 0 0] rfl (by kernel_rfl) (by kernel_rfl) (by kernel_rfl)
      (OpenSpec.preRow_of_cond 8 hx (by kernel_rfl) (fun k hk => by cases hk; kernel_rfl) (by kernel_rfl) (laid_met os _))) ?_
  intro W base args ds gs before hval hW _ hcond _ hL _ _
  exact contract H enc W base args ds gs before hval hW hL (hcond _ rfl)

theorem said : Rows.FnHasMetaJoinUptoSaid :=
  OpenClaim.holds_of_cond 4 Tryd.f4 rfl rfl rfl rfl rfl rfl rfl ⟨rfl, rfl, rfl, rfl, rfl⟩ rfl rfl rfl rfl rfl (by kernel_rfl) Tryd.func4 (by kernel_rfl)
    (of_decide_eq_true (by kernel_rfl)) (by unfold Func.isWrapper; first | (rw [if_pos (by decide +kernel)]; kernel_rfl) | (rw [if_neg (by decide +kernel)]; exact ⟨rfl, rfl⟩))
    (fun os started H enc _ F => by rw [OpenClaim.pre_eq_preRow]; exact lifted os started H enc F)

theorem plain (f : FuncId) (fn : Func) (hf : Tryd.pinned.checked.prog.funcNamed "loop.example/pub-shellpatterns/laws.FnHasMetaJoin" = some f) (hfn : Tryd.pinned.checked.prog.funcs[f]? = some fn) :
    false = Tryd.pinned.checked.prog.looks [] ∧ ∀ (j : Nat) t, fn.params[j]? = some t → Tryd.pinned.checked.prog.wantsStandIn t = false := by
  obtain rfl : f = 4 := Option.some.inj ((show Tryd.prog.funcNamed "loop.example/pub-shellpatterns/laws.FnHasMetaJoin" = some 4 by kernel_rfl).symm.trans hf) |>.symm
  obtain rfl : fn = Tryd.f4 := (Option.some.inj (Tryd.func4.symm.trans hfn)).symm
  refine ⟨by kernel_rfl, fun j t ht => ?_⟩
  rw [Tryd.params4] at ht
  obtain rfl : t = 22 := by simpa using Array.mem_of_getElem? ht
  exact (show Tryd.prog.wantsStandIn 22 = false by kernel_rfl)

/-- THE STATEMENT -/
theorem proved : Rows.FnHasMetaJoinUptoCardSaid :=
  Claim7.holds_tied_plain_at .later [] _ _ _ _ said (fun _ h => by cases h) (by kernel_rfl) (fun _ h => by cases h) fnHasMetaJoinUpto_row_tie rfl ⟨rfl, rfl⟩ (by kernel_rfl) rfl plain (by kernel_rfl)
#print axioms proved
end Go.Proofs.YtmgdljhamplgiaaDoor.fnHasMetaJoin
