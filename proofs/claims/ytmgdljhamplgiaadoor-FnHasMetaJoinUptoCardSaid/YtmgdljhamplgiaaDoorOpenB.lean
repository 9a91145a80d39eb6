/- Arguments that are lists of pieces: what their reading gives, at any depth. -/
import Derived.Test.YtmgdljhamplgiaaDoorOpen
namespace Go.Proofs.YtmgdljhamplgiaaDoor
open Go.ChangeShapes Go.WideShapes Go.ChangeAt Go.RowKit
set_option linter.unusedVariables false
section
variable {H : Type} {enc : TypeId × Value → H} {w : World} {spare : Nat → Bool} {held : Bool}

def OpensAt (enc : TypeId × Value → H) (w : World) (spare : Nat → Bool) (held : Bool) (N : Nat) : Prop := ∀ (fuel : Nat) (v : Value) (x : DataW H × List MemPlace), fuel ≤ N → DataW.trod enc Tryd.prog w 0 spare held fuel 22 [v] = some x → Rows.uptoBulk x.1 ≤ 1048576 →
    ∃ ps : List (PT N), PiecesAt N w v ps ∧ (Pat.printP N ps).length + 16 ≤ 16 * Rows.uptoBulk x.1

theorem mem_sum : ∀ (l : List Nat) (x : Nat), x ∈ l → x ≤ l.sum
  | [], x, h => by cases h
  | y :: r, x, h => by
    simp only [List.sum_cons]
    rcases List.mem_cons.1 h with rfl | h
    · omega
    · have := mem_sum r x h; omega
theorem mem_bulk {elems : List (DataW H × List MemPlace)} (i : Nat) (hi : i < elems.length) : Rows.uptoBulk elems[i].1 ≤ Rows.uptoBulkAll (elems.map (·.1)) := by
  rw [bulkAll_sum, List.map_map]
  have : Rows.uptoBulk elems[i].1 ∈ elems.map (Rows.uptoBulk ∘ fun x => x.1) := List.mem_map.2 ⟨elems[i], List.getElem_mem hi, rfl⟩
  exact mem_sum _ _ this

theorem open_lists {N : Nat} (ih : OpensAt enc w spare held N) {m : Nat} {vl : Value} {z : DataW H × List MemPlace} (hm : m ≤ N + 1) (h : DataW.trod enc Tryd.prog w 0 spare held m 25 [vl] = some z) (hb : Rows.uptoBulk z.1 ≤ 1048576) :
    ∃ lls : List (List (PT N)), (∃ b2 o2, SliceAt vl lls.length b2 o2 ∧ lls.length ≤ 70368744177664 ∧ ∀ j (h2 : j < lls.length), ∃ vj, w.cell? ⟨b2, o2 + j, none⟩ = some vj ∧ PiecesAt N w vj lls[j]) ∧ (lls.map fun x => (Pat.printP N x).length + 1).sum ≤ 16 * Rows.uptoBulk z.1 := by
  rcases DataW.trod_slice Tryd.underlying25 h with ⟨h0, hx⟩ | ⟨a, len, cap, elems, rest, n, hfu, hcs, hx, _, hl, hmm, hlen, hel, _, _⟩
  · simp at h0
    subst h0 hx
    exact ⟨[], ⟨0, 0, .inl ⟨rfl, _, _, rfl⟩, by simp, fun i hi => by simp at hi⟩, by simp⟩
  · simp at hcs
    subst hcs hx
    rw [cellsPieces] at hel
    have hbulk : Rows.uptoBulk (DataW.slice (elems.map (·.1)) (rest.map (·.1))) = Rows.uptoBulkAll (elems.map (·.1)) + Rows.uptoBulkAll (rest.map (·.1)) + 1 := by simp [Rows.uptoBulk]
    dsimp only at hb ⊢
    rw [hbulk] at hb ⊢
    have h4 := bulk_len (elems.map (·.1))
    simp only [List.length_map] at h4
    obtain ⟨lls, hll, hlp⟩ := choose_list (α := List (PT N)) (n := len) (P := fun j l => a.spot = none ∧ (∃ vj, w.cell? ⟨a.block, a.off + j, none⟩ = some vj ∧ PiecesAt N w vj l) ∧ ∃ hj : j < elems.length, (Pat.printP N l).length + 16 ≤ 16 * Rows.uptoBulk elems[j].1) (fun j hj => by
      obtain ⟨hsp, hrow⟩ := row_at (by omega) hlen (by omega) hel
      obtain ⟨cs, hcl, hat, hF⟩ := hrow j (by omega)
      obtain ⟨vj, rfl⟩ : ∃ v, cs = [v] := by
        match cs, hcl with
        | [v], _ => exact ⟨v, rfl⟩
      have hbj := mem_bulk (elems := elems) j (by omega)
      obtain ⟨ps, hp, hpl⟩ := ih n vj elems[j] (by omega) hF (by omega)
      have a0 := hat 0 (by omega)
      exact ⟨ps, hsp, ⟨vj, by simpa using a0, hp⟩, by omega, hpl⟩)
    refine ⟨lls, ⟨a.block, a.off, by rw [hll]; exact sliceAt_of (fun h0 => (hlp 0 (by omega)).1), by omega, fun j hj => (hlp j hj).2.1⟩, ?_⟩
    have hs := sum_zip (fun x : List (PT N) => (Pat.printP N x).length + 1) (fun y : DataW H × List MemPlace => 16 * Rows.uptoBulk y.1) lls elems (by omega) (fun i h1 h2 => by
      obtain ⟨_, _, _, h3⟩ := hlp i h1
      omega)
    have e : (elems.map fun y : DataW H × List MemPlace => 16 * Rows.uptoBulk y.1).sum = 16 * Rows.uptoBulkAll (elems.map (·.1)) := by
      rw [bulkAll_sum, List.map_map]
      clear hs hlp hll h4 hb hbulk hel hlen h
      induction elems with
      | nil => simp
      | cons y r ih2 => simp only [List.map_cons, List.sum_cons, ih2, Function.comp]; omega
    omega

theorem open_pieces : ∀ N : Nat, OpensAt enc w spare held N
  | 0 => fun fuel v x hf h hb => by
    have : fuel = 0 := by omega
    subst this
    simp [DataW.trod] at h
  | N + 1 => fun fuel v x hf h hb => by
    have ih := open_pieces N
    rcases DataW.trod_slice Tryd.underlying22 h with ⟨h0, hx⟩ | ⟨a, len, cap, elems, rest, n, hfu, hcs, hx, _, hl, hmm, hlen, hel, _, _⟩
    · simp at h0
      subst h0 hx
      exact ⟨[], ⟨0, 0, .inl ⟨rfl, _, _, rfl⟩, by simp, fun i hi => by simp at hi⟩, by simp [Rows.uptoBulk, Pat.printP]⟩
    · simp at hcs
      subst hcs hx
      rw [cellsPiece] at hel
      have hbulk : Rows.uptoBulk (DataW.slice (elems.map (·.1)) (rest.map (·.1))) = Rows.uptoBulkAll (elems.map (·.1)) + Rows.uptoBulkAll (rest.map (·.1)) + 1 := by simp [Rows.uptoBulk]
      dsimp only at hb ⊢
      rw [hbulk] at hb ⊢
      have h4 := bulk_len (elems.map (·.1))
      simp only [List.length_map] at h4
      obtain ⟨ps, hpl, hpp⟩ := choose_list (α := PF × List (List (PT N))) (n := len) (P := fun i p => a.spot = none ∧ (∃ vl, FlatAt w a.block (a.off + i * 6) p.1 vl ∧ ∃ b2 o2, SliceAt vl p.2.length b2 o2 ∧ p.2.length ≤ 70368744177664 ∧ ∀ j (h2 : j < p.2.length), ∃ vj, w.cell? ⟨b2, o2 + j, none⟩ = some vj ∧ PiecesAt N w vj p.2[j]) ∧ ∃ hi : i < elems.length, (Pat.printFlat p.1 (p.2.map (Pat.printP N))).length ≤ 16 * Rows.uptoBulk elems[i].1) (fun i hi => by
        obtain ⟨hsp, hrow⟩ := row_at (by omega) hlen (by omega) hel
        obtain ⟨cs, hcl, hat, hF⟩ := hrow i (by omega)
        have hbj := mem_bulk (elems := elems) i (by omega)
        obtain ⟨p, vi, vl, m, z, hm, rfl, hts, hit, hsg, hz, hbz⟩ := open_flat hF (by omega)
        obtain ⟨lls, hll, hsum⟩ := open_lists ih (m := m) (by omega) hz (by omega)
        have hfl := printFlat_len p (lls.map (Pat.printP N))
        have hbl := bars_len (lls.map (Pat.printP N))
        rw [List.map_map] at hbl
        have e : (lls.map ((fun x : List UInt8 => x.length + 1) ∘ Pat.printP N)).sum = (lls.map fun x => (Pat.printP N x).length + 1).sum := rfl
        rw [e] at hbl
        refine ⟨(p, lls), hsp, ⟨vl, ⟨vi, ?_, ?_, ?_, ?_, ?_, ?_, hts, hit, hsg⟩, hll⟩, by omega, by dsimp only; omega⟩
        · simpa using hat 0 (by omega)
        · simpa using hat 1 (by omega)
        · simpa using hat 2 (by omega)
        · simpa using hat 3 (by omega)
        · simpa using hat 4 (by omega)
        · simpa using hat 5 (by omega))
      have hsl : SliceAt (.slice (some a) len cap) ps.length a.block a.off := by rw [hpl]; exact sliceAt_of (fun h0 => (hpp 0 (by omega)).1)
      have hpl2 : ps.length ≤ 70368744177664 := by omega
      refine ⟨(ps : List (PF × List (List (PT N)))), ⟨a.block, a.off, hsl, hpl2, fun i hi => (hpp i hi).2.1⟩, ?_⟩
      · have hs := sum_zip (fun p : PF × List (List (PT N)) => (Pat.printFlat p.1 (p.2.map (Pat.printP N))).length) (fun y : DataW H × List MemPlace => 16 * Rows.uptoBulk y.1) ps elems (by omega) (fun i h1 h2 => by
          obtain ⟨_, _, _, h3⟩ := hpp i h1
          exact h3)
        have e : (elems.map fun y : DataW H × List MemPlace => 16 * Rows.uptoBulk y.1).sum = 16 * Rows.uptoBulkAll (elems.map (·.1)) := by
          rw [bulkAll_sum, List.map_map]
          clear hs hpp hpl h4 hb hbulk hel hlen h
          induction elems with
          | nil => simp
          | cons y r ih2 => simp only [List.map_cons, List.sum_cons, ih2, Function.comp]; omega
        have e2 : (Pat.printP (N + 1) (ps : List (PF × List (List (PT N))))).length = (ps.map fun p : PF × List (List (PT N)) => (Pat.printFlat p.1 (p.2.map (Pat.printP N))).length).sum := length_flatMap' (fun p : PF × List (List (PT N)) => Pat.printFlat p.1 (p.2.map (Pat.printP N))) ps
        rw [e2]
        omega
end
end Go.Proofs.YtmgdljhamplgiaaDoor
