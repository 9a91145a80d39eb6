/- The listed variable classNames: what the row's list gives; that it reads again behind the call. -/
import Derived.Test.YtmgdljhamplgiaaDoorRows
import Derived.Test.YtmgdljhamplgiaaDoorPrintP
import Derived.LaidMore
import Derived.ProofKit
import Derived.WalkSmall
import Derived.Carry
import Derived.Stop.Joined
namespace Go.Proofs.YtmgdljhamplgiaaDoor
open Go.ChangeShapes Go.WideShapes Go.ChangeAt Go.RowKit
set_option linter.unusedVariables false

theorem gNames : Tryd.prog.globalNamed "loop.example/pub-shellpatterns/spec.classNames" = some 0 := by kernel_rfl
theorem tNames : (Tryd.prog.globals[0]?).map (·.type) = some 40 := by kernel_rfl
theorem cString : Tryd.prog.cellsOf 9 = 1 := by kernel_rfl
theorem laidOut : laidOutB Tryd.prog = true := by kernel_rfl

/-- a listed slice of strings, at its variable -/
theorem strings_at {W : World} {n : String} {g : Nat} {cs : Array Value} {fuel : Nat} {p : List MemPlace} (l : List (List UInt8)) (hl : 0 < l.length) (hg : Tryd.prog.globalNamed n = some g) (hv : W.var? Tryd.prog n = some cs)
    (hd : DataW.trod (fun _ => ()) Tryd.prog W 0 (fun _ => true) false fuel 40 cs.toList = some (.slice (l.map fun x => .lit (.string x)) [], p)) :
    ∃ cb co cc, W.cell? ⟨g, 0, none⟩ = some (.slice (some ⟨cb, co, none⟩) l.length cc) ∧ ∀ i, i < l.length → W.cell? ⟨cb, co + i, none⟩ = some (.string ⟨(l.getD i []).toArray⟩) := by
  obtain ⟨a, cap, hcs, _, hel⟩ := open_row Tryd.underlying40 cString hd
  have hcell : W.cell? ⟨g, 0, none⟩ = some (.slice (some a) l.length cap) := by
    have := World.var?_cell hg hv 0
    rw [Array.eq_one_of_toList hcs] at this
    simpa using this
  have hat : ∀ i, i < l.length → W.cell? (a.add i) = some (.string ⟨(l.getD i []).toArray⟩) := by
    intro i hi
    obtain ⟨v, m, q, hc, ht⟩ := hel i (.lit (.string l[i])) (by simp [List.getElem?_eq_getElem hi])
    obtain ⟨s, hs, hx, _⟩ := DataW.trod_string Tryd.underlying9 ht
    obtain rfl := List.head_eq_of_cons_eq hs
    simp only [Prod.mk.injEq, DataW.lit.injEq, Lit.string.injEq] at hx
    rw [hc]
    have e : (l.getD i []) = s.data.toList := by simp [List.getD, List.getElem?_eq_getElem hi, hx.1]
    rw [e, Pat.bytes_eta]
  have hsp : a.spot = none := by
    have := World.cell?_spot (hat 0 hl)
    simpa [Addr.add] using this
  obtain ⟨b, o, s⟩ := a
  simp only at hsp
  subst hsp
  refine ⟨b, o, cap, hcell, fun i hi => ?_⟩
  have := hat i hi
  have e : (⟨b, o, none⟩ : Addr).add i = ⟨b, o + i, none⟩ := by unfold Addr.add; split <;> simp_all
  rwa [e] at this

/-- a named variable of slices of strings reads again behind a call that turns nothing that was there -/
theorem trodVars_below {H : Type} {enc : TypeId × Value → H} {W W' : World} (hb : Below W.heap.size W W') : ∀ {ns : List String} {gs : List (DataW H)} {ps : List MemPlace},
    (∀ n ∈ ns, ∀ g, Tryd.prog.globalNamed n = some g → (Tryd.prog.globals[g]?).map (·.type) = some 40) →
    DataW.TrodVars enc Tryd.prog W (fun _ => true) ns gs ps → DataW.TrodVars enc Tryd.prog W' (fun b => decide (b < W.heap.size)) ns gs ps
  | [], [], ps, _, h => h
  | [], _ :: _, ps, _, h => by cases h
  | n :: ns, [], ps, _, h => by cases h
  | n :: ns, d :: gs, ps, hns, ⟨g, t, cs, fuel, p, q, h1, h2, h3, h4, h5, h6⟩ => by
    have ht := Option.some.inj ((hns n (by simp) g h1).symm.trans h2)
    subst ht
    have hlt : g < W.heap.size := by
      simp only [World.var?, h1, Option.bind_some] at h3
      rcases Nat.lt_or_ge g W.heap.size with h | h
      · exact h
      · simp [Array.getElem?_eq_none h] at h3
    obtain ⟨v, hv⟩ : ∃ v, cs.toList = [v] := by
      rcases DataW.trod_slice Tryd.underlying40 h4 with ⟨h, _⟩ | ⟨a, len, cap, elems, rest, m, _, h, _⟩
      · exact ⟨_, h⟩
      · exact ⟨_, h⟩
    have hcell : ∃ fuel', DataW.trod enc Tryd.prog W' 0 (fun b => decide (b < W.heap.size)) true fuel' 40 cs.toList = some (d, p) := by
      have hsl : v.cells.toList = [v] := by
        rcases DataW.trod_slice Tryd.underlying40 h4 with ⟨h, _⟩ | ⟨a, len, cap, elems, rest, m, _, h, _⟩
        · rw [hv] at h; obtain rfl := List.head_eq_of_cons_eq h; rfl
        · rw [hv] at h; obtain rfl := List.head_eq_of_cons_eq h; rfl
      have hT : DataW.Trod enc Tryd.prog W 0 (fun _ => true) true 40 v d p := ⟨fuel, by rw [hsl, ← hv]; exact h4⟩
      have := Below.trod laidOut (by kernel_rfl) (of_decide_eq_true (by kernel_rfl)) hT hb (DataW.trod_lt fuel _ _ _ h4)
      obtain ⟨f2, h⟩ := this
      rw [hsl, ← hv] at h
      exact ⟨f2, h⟩
    obtain ⟨f2, hc2⟩ := hcell
    exact ⟨g, 40, cs, f2, p, q, h1, h2, var?_below hb h1 hlt h3, hc2, trodVars_below hb (fun m hm => hns m (by simp [hm])) h5, h6⟩
end Go.Proofs.YtmgdljhamplgiaaDoor
