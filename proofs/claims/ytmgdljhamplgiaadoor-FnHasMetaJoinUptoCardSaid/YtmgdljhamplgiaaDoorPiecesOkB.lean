/- PiecesOk over pieces of any depth. -/
import Derived.Test.YtmgdljhamplgiaaDoorPiecesOk
namespace Go.Proofs.YtmgdljhamplgiaaDoor
open Go.ChangeShapes Go.WideShapes Go.ChangeAt Go.RowKit
set_option linter.unusedVariables false

theorem choose_list {α : Type} {n : Nat} {P : Nat → α → Prop} (h : ∀ i, i < n → ∃ x, P i x) : ∃ l : List α, l.length = n ∧ ∀ i (hi : i < l.length), P i l[i] := by
  induction n with
  | zero => exact ⟨[], rfl, fun i hi => by simp at hi⟩
  | succ n ih =>
    obtain ⟨l, hl, hp⟩ := ih (fun i hi => h i (by omega))
    obtain ⟨x, hx⟩ := h n (by omega)
    refine ⟨l ++ [x], by simp [hl], fun i hi => ?_⟩
    by_cases hin : i < l.length
    · rw [List.getElem_append_left hin]; exact hp i hin
    · have : i = n := by simp at hi; omega
      subst this
      rw [List.getElem_append_right (by omega)]
      simpa [hl] using hx

theorem piecesOk_deep (a : Option Addr) (len c : Nat) (g nt : Bool) (d : Int) (w : World) (hd : 3 < d) :
    Calls Tryd.prog 5 #[.slice a len c, .bool g, .bool nt, .int .i64 d] w fun e w' => e = .returned (.bool false) ∧ Below w.heap.size w w' := by
  go_enter Tryd.func5, Tryd.ntmps5
  go_wp2_with fail
  go_ret
  exact ⟨rfl, Below.refl _ _⟩

set_option maxRecDepth 100000 in
theorem piecesOk_nil (a : Option Addr) (c : Nat) (g nt : Bool) (d : Int) (w : World) (hd : d ≤ 3) :
    Calls Tryd.prog 5 #[.slice a 0 c, .bool g, .bool nt, .int .i64 d] w fun e w' => e = .returned (.bool true) ∧ Below w.heap.size w w' := by
  go_enter Tryd.func5, Tryd.ntmps5
  go_wp2_with fail
  refine wp_loop_rounds 1 ?_
  rw [rounds_succ]
  go_wp2_with fail
  go_ret
  exact ⟨rfl, Below.refl _ _⟩

theorem okOne_zero (g nt : Bool) (p : PF) : okOne g nt (p, []) = Pat.okFlat p := by
  by_cases h : p.kind = 5
  · simp [okOne, Pat.okFlat, h]
  · simp [okOne, h]

theorem piecesOk_flat (g nt : Bool) (d : Int) (v : Value) (ps : List PF) (w : World) (hp : ∃ b o, SliceAt v ps.length b o ∧ ps.length ≤ 70368744177664 ∧ ∀ i (h : i < ps.length), ∃ a c, FlatAt w b (o + i * 6) ps[i] (.slice a 0 c)) (h0 : 0 ≤ d) :
    Calls Tryd.prog 5 #[v, .bool g, .bool nt, .int .i64 d] w fun e w' => e = .returned (.bool (!decide (3 < d) && ps.all fun p => Pat.okFlat p)) ∧ Below w.heap.size w w' := by
  obtain ⟨b, o, hs, hl, hc⟩ := hp
  by_cases hd : 3 < d
  · obtain ⟨a, c, rfl, _⟩ := sliceAt_shape hs
    have := piecesOk_deep a ps.length c g nt d w hd
    simpa [hd] using this
  · rcases hs with ⟨hz, a, c, rfl⟩ | ⟨c, rfl⟩
    · have e : ps = [] := List.length_eq_zero_iff.1 hz
      subst e
      have := piecesOk_nil a c g nt d w (by omega)
      simpa [hd] using this
    · have := piecesOk_core (ps.map fun p => (p, [])) g nt d b o c w (by omega) h0 (by simpa using hl) (fun i hi => by
        have hi' : i < ps.length := by simpa using hi
        obtain ⟨a, c', hf⟩ := hc i hi'
        refine ⟨.slice a 0 c', by simpa using hf, 0, 0, .inl ⟨by simp, a, c', rfl⟩, by simp, fun j hj => by simp at hj⟩)
      rw [List.length_map, List.all_map] at this
      have e : ps.all (okOne g nt ∘ fun p => (p, [])) = (!decide (3 < d) && ps.all fun p => Pat.okFlat p) := by
        simp only [hd, decide_false, Bool.not_false, Bool.true_and]
        congr 1
        funext p
        exact okOne_zero g nt p
      rwa [e] at this

theorem piecesOk_any (g nt : Bool) : ∀ (n : Nat) (d : Int) (v : Value) (ps : List (PT n)) (w : World), PiecesAt n w v ps → 0 ≤ d →
    Calls Tryd.prog 5 #[v, .bool g, .bool nt, .int .i64 d] w fun e w' => e = .returned (.bool (Pat.okP n g nt d ps)) ∧ Below w.heap.size w w'
  | 0, d, v, ps, w, hp, h0 => piecesOk_flat g nt d v ps w hp h0
  | n + 1, d, v, ps, w, ⟨b, o, hs, hl, hc⟩, h0 => by
    by_cases hd : 3 < d
    · obtain ⟨a, c, rfl, _⟩ := sliceAt_shape hs
      have := piecesOk_deep a ps.length c g nt d w hd
      simpa [Pat.okP, hd] using this
    · rcases hs with ⟨hz, a, c, rfl⟩ | ⟨c, rfl⟩
      · have e : ps = [] := List.length_eq_zero_iff.1 hz
        subst e
        have := piecesOk_nil a c g nt d w (by omega)
        simpa [Pat.okP, hd] using this
      · obtain ⟨L, hL, hLp⟩ := choose_list (α := List (Value × Bool)) (n := ps.length) (P := fun i l => ∃ h : i < ps.length, (∃ vl, FlatAt w b (o + i * 6) ps[i].1 vl ∧ Lists w g nt d vl l) ∧ l.map (·.2) = ps[i].2.map (Pat.okP n g nt (d + 1))) (fun i hi => by
          obtain ⟨vl, hf, b2, o2, hs2, hl2, hc2⟩ := hc i hi
          obtain ⟨l, hll, hlp⟩ := choose_list (α := Value) (n := ps[i].2.length) (P := fun j x => ∃ h : j < ps[i].2.length, w.cell? ⟨b2, o2 + j, none⟩ = some x ∧ PiecesAt n w x ps[i].2[j]) (fun j hj => by
            obtain ⟨vj, h1, h2⟩ := hc2 j hj
            exact ⟨vj, hj, h1, h2⟩)
          refine ⟨l.zip (ps[i].2.map (Pat.okP n g nt (d + 1))), hi, ⟨vl, hf, b2, o2, by simpa [hll] using hs2, by simpa [hll] using hl2, fun j hj => ?_⟩, by rw [List.map_snd_zip]; simp [hll]⟩
          have hj1 : j < l.length := by simp at hj; omega
          obtain ⟨hj2, h1, h2⟩ := hlp j hj1
          refine ⟨by simpa using h1, fun w' hw' => ?_⟩
          have := piecesOk_any g nt n (d + 1) l[j] ps[i].2[j] w' (PiecesAt.kept hw' n h2) (by omega)
          simpa using this)
        have := piecesOk_core ((ps.map (·.1)).zip L) g nt d b o c w (by omega) h0 (by simpa [hL] using hl) (fun i hi => by
          have hi1 : i < L.length := by simp at hi; omega
          obtain ⟨hi2, ⟨vl, hf, hls⟩, _⟩ := hLp i hi1
          exact ⟨vl, by simpa using hf, by simpa using hls⟩)
        rw [show ((ps.map (·.1)).zip L).length = ps.length from by simp [hL]] at this
        have e : ((ps.map (·.1)).zip L).all (okOne g nt) = Pat.okP (n + 1) g nt d ps := by
          simp only [Pat.okP, hd, decide_false, Bool.not_false, Bool.true_and]
          rw [Bool.eq_iff_iff, List.all_eq_true, List.all_eq_true]
          have key : ∀ i (h1 : i < ps.length) (h2 : i < L.length), okOne g nt (ps[i].1, L[i]) = (if ps[i].1.kind = 5 then g && !ps[i].2.isEmpty && Pat.signB nt ps[i].1.sign && ps[i].2.all (Pat.okP n g nt (d + 1)) else Pat.okFlat ps[i].1) := by
            intro i h1 h2
            obtain ⟨_, _, hm⟩ := hLp i h2
            have e1 : L[i].all (·.2) = ps[i].2.all (Pat.okP n g nt (d + 1)) := by
              have := congrArg (fun l => l.all id) hm
              simpa [List.all_map, Function.comp_def] using this
            have e2 : L[i].isEmpty = ps[i].2.isEmpty := by
              have := congrArg List.length hm
              simp only [List.length_map] at this
              cases h1 : L[i] <;> cases h2 : ps[i].2 <;> simp_all
            simp only [okOne, e1, e2]
          constructor
          · intro h p hp
            obtain ⟨i, hi, rfl⟩ := List.getElem_of_mem hp
            rw [← key i hi (by omega)]
            refine h _ ?_
            have : ((ps.map (·.1)).zip L)[i]'(by simp [hL]; omega) = (ps[i].1, L[i]'(by omega)) := by simp
            rw [← this]
            exact List.getElem_mem _
          · intro h q hq
            obtain ⟨i, hi, rfl⟩ := List.getElem_of_mem hq
            have hi1 : i < ps.length := by simp at hi; omega
            have hi2 : i < L.length := by omega
            have : ((ps.map (·.1)).zip L)[i]'hi = (ps[i].1, L[i]) := by simp
            rw [this, key i hi1 hi2]
            exact h _ (List.getElem_mem _)
        rwa [e] at this
end Go.Proofs.YtmgdljhamplgiaaDoor
