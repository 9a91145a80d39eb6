/- Print over pieces of any depth. -/
import Derived.Test.YtmgdljhamplgiaaDoorPrint
namespace Go.Proofs.YtmgdljhamplgiaaDoor
open Go.ChangeShapes Go.WideShapes Go.ChangeAt Go.RowKit
set_option linter.unusedVariables false

theorem okFlat_cls {p : PF} (h : Pat.okFlat p = true) : clsOk p := by
  intro k4
  have h' : p.items.all Pat.itemI = true ∧ p.items ≠ [] := by
    simp [Pat.okFlat, k4] at h
    exact ⟨by simpa using h.1, h.2⟩
  refine ⟨h'.2, fun i hi => ?_⟩
  have := List.all_eq_true.1 h'.1 i hi
  by_cases hc : i.cls = 0
  · omega
  · simp [Pat.itemI, hc] at this
    omega

set_option maxRecDepth 100000 in
theorem print_nil (a : Option Addr) (c : Nat) (w : World) :
    Calls Tryd.prog 7 #[.slice a 0 c] w fun e w' => e = .returned (.string ⟨#[]⟩) ∧ Below w.heap.size w w' := by
  go_enter Tryd.func7, Tryd.ntmps7
  go_wp2_with fail
  refine wp_loop_rounds 1 ?_
  rw [rounds_succ]
  go_wp2_with fail
  go_ret
  exact ⟨rfl, Below.refl _ _⟩

theorem print_flat (v : Value) (ps : List PF) (w : World) (hn : Names w) (hp : ∃ b o, SliceAt v ps.length b o ∧ ps.length ≤ 70368744177664 ∧ ∀ i (h : i < ps.length), ∃ a c, FlatAt w b (o + i * 6) ps[i] (.slice a 0 c))
    (hok : ∀ p ∈ ps, Pat.okFlat p = true) (hT : (ps.flatMap fun p => Pat.printFlat p []).length ≤ 4611686018427387904) :
    Calls Tryd.prog 7 #[v] w fun e w' => e = .returned (.string ⟨(ps.flatMap fun p => Pat.printFlat p []).toArray⟩) ∧ Below w.heap.size w w' := by
  obtain ⟨b, o, hs, hl, hc⟩ := hp
  rcases hs with ⟨hz, a, c, rfl⟩ | ⟨c, rfl⟩
  · have e : ps = [] := List.length_eq_zero_iff.1 hz
    subst e
    exact print_nil a c w
  · have e : (ps.map fun p => (p, ([] : List (Value × List UInt8)))).flatMap printQ = ps.flatMap fun p => Pat.printFlat p [] := by
      rw [List.flatMap_map]; simp [printQ]
    have := print_core (ps.map fun p => (p, [])) b o c w (by simpa using hl) (by rw [e]; exact hT) hn (fun i hi => by
      have hi' : i < ps.length := by simpa using hi
      obtain ⟨a, c', hf⟩ := hc i hi'
      refine ⟨.slice a 0 c', by simpa using hf, by simpa using okFlat_cls (hok _ (List.getElem_mem hi')), fun k5 => ?_, a, 0, c', rfl⟩
      exact ⟨0, 0, .inl ⟨by simp, a, c', rfl⟩, by simp, fun j hj => by simp at hj⟩)
    rwa [List.length_map, e] at this

theorem flatMap_le {α : Type} (f : α → List UInt8) (l : List α) (x : α) (h : x ∈ l) : (f x).length ≤ (l.flatMap f).length := by
  induction l with
  | nil => cases h
  | cons y r ih =>
    rw [List.flatMap_cons, List.length_append]
    rcases List.mem_cons.1 h with rfl | h
    · omega
    · have := ih h; omega
theorem bars_le (l : List (List UInt8)) (x : List UInt8) (h : x ∈ l) : x.length ≤ (Pat.bars l).length := by
  cases l with
  | nil => cases h
  | cons y r =>
    rw [Pat.bars_cons, List.length_append]
    rcases List.mem_cons.1 h with rfl | h
    · omega
    · have h1 := flatMap_le (fun x => (124 : UInt8) :: x) r x h
      simp only [List.length_cons] at h1
      simp only [Pat.barred]; omega

theorem zip_flatMap {α β γ : Type} (f : α → β) (F : β × γ → List UInt8) (G : α → List UInt8) : ∀ (A : List α) (L : List γ), L.length = A.length → (∀ i (h1 : i < A.length) (h2 : i < L.length), F (f A[i], L[i]) = G A[i]) → ((A.map f).zip L).flatMap F = A.flatMap G
  | [], L, _, _ => by simp
  | a :: A, [], h, _ => by simp at h
  | a :: A, l :: L, h, hi => by
    have h0 := hi 0 (by simp) (by simp)
    have hr := zip_flatMap f F G A L (by simpa using h) (fun i h1 h2 => by
      have := hi (i + 1) (by simp; omega) (by simp; omega)
      simpa using this)
    simp only [List.map_cons, List.zip_cons_cons, List.flatMap_cons, hr]
    simp only [List.getElem_cons_zero] at h0
    rw [h0]
theorem print_any (g nt : Bool) : ∀ (n : Nat) (d : Int) (v : Value) (ps : List (PT n)) (w : World), Names w → PiecesAt n w v ps → Pat.okP n g nt d ps = true → (Pat.printP n ps).length ≤ 4611686018427387904 →
    Calls Tryd.prog 7 #[v] w fun e w' => e = .returned (.string ⟨(Pat.printP n ps).toArray⟩) ∧ Below w.heap.size w w'
  | 0, d, v, ps, w, hn, hp, hok, hT => by
    have h2 : ∀ p ∈ (ps : List PF), Pat.okFlat p = true := by
      simp only [Pat.okP, Bool.and_eq_true] at hok
      exact List.all_eq_true.1 hok.2
    exact print_flat v ps w hn hp h2 hT
  | n + 1, d, v, ps, w, hn, ⟨b, o, hs, hl, hc⟩, hok, hT => by
    have hok2 : ∀ p ∈ ps, (if p.1.kind = 5 then g && !p.2.isEmpty && Pat.signB nt p.1.sign && p.2.all (Pat.okP n g nt (d + 1)) else Pat.okFlat p.1) = true := by
      simp only [Pat.okP, Bool.and_eq_true] at hok
      exact List.all_eq_true.1 hok.2
    rcases hs with ⟨hz, a, c, rfl⟩ | ⟨c, rfl⟩
    · have e : ps = [] := List.length_eq_zero_iff.1 hz
      subst e
      exact print_nil a c w
    · obtain ⟨L, hL, hLp⟩ := choose_list (α := List (Value × List UInt8)) (n := ps.length) (P := fun i l => ∃ h : i < ps.length, (∃ vl, FlatAt w b (o + i * 6) ps[i].1 vl ∧ clsOk ps[i].1 ∧ (ps[i].1.kind = 5 → ListsP w vl l) ∧ ∃ a n c, vl = .slice a n c) ∧ l.map (·.2) = ps[i].2.map (Pat.printP n)) (fun i hi => by
        obtain ⟨vl, hf, b2, o2, hs2, hl2, hc2⟩ := hc i hi
        obtain ⟨al, cl, hvl, _⟩ := sliceAt_shape hs2
        have hoki := hok2 ps[i] (List.getElem_mem hi)
        obtain ⟨l, hll, hlp⟩ := choose_list (α := Value) (n := ps[i].2.length) (P := fun j x => ∃ h : j < ps[i].2.length, w.cell? ⟨b2, o2 + j, none⟩ = some x ∧ PiecesAt n w x ps[i].2[j]) (fun j hj => by
          obtain ⟨vj, h1, h2⟩ := hc2 j hj
          exact ⟨vj, hj, h1, h2⟩)
        refine ⟨l.zip (ps[i].2.map (Pat.printP n)), hi, ⟨vl, hf, ?_, fun k5 => ⟨b2, o2, by simpa [hll] using hs2, by simpa [hll] using hl2, fun j hj => ?_⟩, al, _, cl, hvl⟩, by rw [List.map_snd_zip]; simp [hll]⟩
        · by_cases k5 : ps[i].1.kind = 5
          · intro k4; omega
          · rw [if_neg k5] at hoki
            exact okFlat_cls hoki
        · have hj1 : j < l.length := by simp at hj; omega
          obtain ⟨hj2, h1, h2⟩ := hlp j hj1
          refine ⟨by simpa using h1, fun w' hw' => ?_⟩
          rw [if_pos k5] at hoki
          simp only [Bool.and_eq_true] at hoki
          have hokj := List.all_eq_true.1 hoki.2 ps[i].2[j] (List.getElem_mem hj2)
          have hle : (Pat.printP n ps[i].2[j]).length ≤ 4611686018427387904 := by
            have e1 : (Pat.printP n ps[i].2[j]).length ≤ (Pat.bars (ps[i].2.map (Pat.printP n))).length := bars_le _ _ (List.mem_map_of_mem (List.getElem_mem hj2))
            have e2 := flatMap_le (fun p : PT (n + 1) => Pat.printFlat p.1 (p.2.map (Pat.printP n))) ps ps[i] (List.getElem_mem hi)
            have e3 : (Pat.printFlat ps[i].1 (ps[i].2.map (Pat.printP n))) = [Pat.byteI ps[i].1.sign, 40] ++ Pat.bars (ps[i].2.map (Pat.printP n)) ++ [41] := by
              simp [Pat.printFlat, k5]
            rw [e3] at e2
            simp only [List.length_append] at e2
            simp only [Pat.printP] at hT
            omega
          have := print_any g nt n (d + 1) l[j] ps[i].2[j] w' (Names.kept hw' hn) (PiecesAt.kept hw' n h2) hokj hle
          simpa using this)
      have e : ((ps.map (·.1)).zip L).flatMap printQ = Pat.printP (n + 1) ps := by
        refine zip_flatMap (·.1) printQ _ ps L hL fun i h1 h2 => ?_
        obtain ⟨_, _, hm⟩ := hLp i h2
        simp only [printQ, hm]
      have := print_core ((ps.map (·.1)).zip L) b o c w (by simpa [hL] using hl) (by rw [e]; exact hT) hn (fun i hi => by
        have hi1 : i < L.length := by simp at hi; omega
        obtain ⟨hi2, ⟨vl, hf, hcl, hls, hsh⟩, _⟩ := hLp i hi1
        exact ⟨vl, by simpa using hf, by simpa using hcl, by simpa using hls, hsh⟩)
      rwa [show ((ps.map (·.1)).zip L).length = ps.length from by simp [hL], e] at this
end Go.Proofs.YtmgdljhamplgiaaDoor
