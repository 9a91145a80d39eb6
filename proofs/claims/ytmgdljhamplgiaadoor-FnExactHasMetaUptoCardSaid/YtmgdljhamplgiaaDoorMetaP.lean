/- The plain law: a printed pattern has metacharacters just if a piece is no text. -/
import Derived.Test.YtmgdljhamplgiaaDoorPrintB
namespace Go.Proofs.YtmgdljhamplgiaaDoor
open Go.RowKit

/-- a pattern without groups: its pieces without their lists -/
def flatOf (n : Nat) (ps : List (PT n)) : List PF := ps.map (PT.f n)
def printF (fs : List PF) : List UInt8 := fs.flatMap fun p => Pat.printFlat p []
theorem printFlat_lists {p : PF} (h : Pat.okFlat p = true) (l : List (List UInt8)) : Pat.printFlat p l = Pat.printFlat p [] := by
  unfold Pat.printFlat
  by_cases k5 : p.kind = 5
  · simp [Pat.okFlat, k5] at h
  · simp [k5]
theorem flat_ok (nt : Bool) : ∀ (n : Nat) (d : Int) (ps : List (PT n)), Pat.okP n false nt d ps = true → (∀ p ∈ flatOf n ps, Pat.okFlat p = true) ∧ Pat.printP n ps = printF (flatOf n ps)
  | 0, d, ps, h => by
    have h2 : ∀ p ∈ (ps : List PF), Pat.okFlat p = true := by
      simp only [Pat.okP, Bool.and_eq_true] at h
      exact List.all_eq_true.1 h.2
    have e : flatOf 0 ps = (ps : List PF) := List.map_id' (ps : List PF)
    rw [e]
    exact ⟨h2, rfl⟩
  | n + 1, d, ps, h => by
    have h2 : ∀ p ∈ ps, Pat.okFlat p.1 = true := by
      simp only [Pat.okP, Bool.and_eq_true] at h
      intro p hp
      have := List.all_eq_true.1 h.2 p hp
      by_cases k5 : p.1.kind = 5
      · simp [k5] at this
      · simpa [k5] using this
    refine ⟨fun p hp => ?_, ?_⟩
    · obtain ⟨q, hq, rfl⟩ := List.mem_map.1 hp
      exact h2 q hq
    · simp only [Pat.printP, printF, flatOf, List.flatMap_map]
      have : ∀ (l : List (PT (n + 1))), (∀ p ∈ l, Pat.okFlat p.1 = true) → (l.flatMap fun p => Pat.printFlat p.1 (p.2.map (Pat.printP n))) = l.flatMap fun a => Pat.printFlat (PT.f (n + 1) a) [] := by
        intro l
        induction l with
        | nil => intro _; rfl
        | cons p r ih =>
          intro hl
          rw [List.flatMap_cons, List.flatMap_cons, ih (fun q hq => hl q (by simp [hq])), printFlat_lists (hl p (by simp))]
          rfl
      exact this ps h2

namespace Pat
theorem safe_range {n : Nat} (h : safeI n = true) : n ≠ 92 ∧ n ≠ 42 ∧ n ≠ 63 ∧ n ≠ 91 ∧ n ≠ 93 ∧ n ≠ 10 := by
  simp only [safeI, letterI, Bool.or_eq_true, Bool.and_eq_true, decide_eq_true_eq, beq_iff_eq] at h
  omega
theorem meta_plain {c : UInt8} (o : Bool) (r : List UInt8) (h1 : c.toNat ≠ 92) (h2 : c.toNat ≠ 42) (h3 : c.toNat ≠ 63) (h4 : c.toNat ≠ 91) (h5 : c.toNat ≠ 93) : metaL o (c :: r) = metaL o r := by
  simp [metaL, metaE, h1, h2, h3, h4, h5]
theorem meta_text (o : Bool) : ∀ (t r : List UInt8), metaL o (printText t ++ r) = metaL o r
  | [], r => rfl
  | c :: t, r => by
    have ih := meta_text o t r
    simp only [printText] at ih
    simp only [printText, List.flatMap_cons, esc1, List.append_assoc]
    split
    · rename_i hs
      have := safe_range hs
      rw [List.singleton_append, meta_plain o _ this.1 this.2.1 this.2.2.1 this.2.2.2.1 this.2.2.2.2.1]
      exact ih
    · simp only [List.cons_append, List.nil_append]
      simp only [metaL] at ih ⊢
      simp [metaE, ih]
/-- behind an open bracket a closing one is met -/
theorem meta_closes : ∀ (x r : List UInt8), (∀ c ∈ x, c.toNat ≠ 92) → metaL true (x ++ 93 :: r) = true
  | [], r, _ => by simp [metaL, metaE]
  | c :: x, r, h => by
    have ih := meta_closes x r (fun y hy => h y (by simp [hy]))
    have hc := h c (by simp)
    simp only [metaL] at ih ⊢
    simp [metaE, hc, ih]
theorem names_no (i : Nat) : ∀ c ∈ names.getD i [], c.toNat ≠ 92 := by
  by_cases h : i < 13
  · match i, h with
    | 0, _ | 1, _ | 2, _ | 3, _ | 4, _ | 5, _ | 6, _ | 7, _ | 8, _ | 9, _ | 10, _ | 11, _ | 12, _ => decide
  · have h1 : names.length = 13 := rfl
    simp [List.getD, List.getElem?_eq_none (by omega : names.length ≤ i)]
theorem item_range {i : It} (h : itemI i = true) (hc : i.cls = 0) : 32 ≤ i.lo ∧ i.lo ≤ 126 ∧ 32 ≤ i.hi ∧ i.hi ≤ 126 ∧ i.lo ≠ 92 ∧ i.hi ≠ 92 := by
  simp only [itemI, if_pos hc, safeI, letterI, Bool.or_eq_true, Bool.and_eq_true, decide_eq_true_eq, beq_iff_eq, bne_iff_ne] at h
  omega
theorem byteI_nat {x : Int} (h0 : 0 ≤ x) (h1 : x ≤ 255) : (byteI x).toNat = x.toNat := by simp [byteI]; omega
theorem item_no {i : It} (h : itemI i = true) : ∀ c ∈ printItem i, c.toNat ≠ 92 := by
  unfold printItem
  by_cases hc : i.cls = 0
  · have hr := item_range h hc
    have b1 := byteI_nat (x := i.lo) (by omega) (by omega)
    have b2 := byteI_nat (x := i.hi) (by omega) (by omega)
    rw [if_pos hc]
    split
    · intro c hm
      rw [List.mem_singleton.1 hm]; omega
    · intro c hm
      simp only [List.mem_cons, List.not_mem_nil, or_false] at hm
      rcases hm with rfl | rfl | rfl
      · omega
      · decide
      · omega
  · rw [if_neg hc]
    intro c hm
    simp only [List.mem_append, List.mem_cons, List.not_mem_nil, or_false] at hm
    rcases hm with ((rfl | rfl) | hm) | (rfl | rfl)
    · decide
    · decide
    · exact names_no _ c hm
    · decide
    · decide
theorem meta_flat {p : PF} (h : okFlat p = true) (r : List UInt8) : metaL false (printFlat p [] ++ r) = (decide (p.kind ≠ 1) || metaL false r) := by
  unfold printFlat
  by_cases k1 : p.kind = 1
  · rw [if_pos k1, meta_text]; simp [k1]
  · rw [if_neg k1]
    by_cases k2 : p.kind = 2
    · rw [if_pos k2]; simp [metaL, metaE, k1]
    · rw [if_neg k2]
      by_cases k3 : p.kind = 3
      · rw [if_pos k3]; simp [metaL, metaE, k1]
      · rw [if_neg k3]
        by_cases k4 : p.kind = 4
        · rw [if_pos k4]
          have hi : ∀ i ∈ p.items, itemI i = true := by
            simp [okFlat, k4] at h
            exact h.1
          have hx : ∀ c ∈ (if p.neg then [33] else []) ++ p.items.flatMap printItem, c.toNat ≠ 92 := by
            intro c hc
            rcases List.mem_append.1 hc with hc | hc
            · simp at hc
              rw [hc.2]; decide
            · obtain ⟨i, hii, hci⟩ := List.mem_flatMap.1 hc
              exact item_no (hi i hii) c hci
          have := meta_closes _ r hx
          simp only [metaL] at this ⊢
          simp only [List.append_assoc, List.cons_append, List.nil_append] at this ⊢
          simp [metaE, this, k1]
        · simp [okFlat, k1, k2, k3, k4] at h
theorem meta_print : ∀ (fs : List PF) (r : List UInt8), (∀ p ∈ fs, okFlat p = true) → metaL false (printF fs ++ r) = ((fs.any fun p => decide (p.kind ≠ 1)) || metaL false r)
  | [], r, _ => by simp [printF]
  | p :: fs, r, h => by
    have ih := meta_print fs r (fun q hq => h q (by simp [hq]))
    have h1 := meta_flat (h p (by simp)) (printF fs ++ r)
    simp only [printF] at ih h1
    simp only [printF, List.flatMap_cons, List.append_assoc]
    rw [h1, ih, List.any_cons, Bool.or_assoc]
theorem meta_pieces (fs : List PF) (h : ∀ p ∈ fs, okFlat p = true) : metaL false (printF fs) = fs.any fun p => decide (p.kind ≠ 1) := by
  have := meta_print fs [] h
  simpa [metaL, metaE] using this
end Pat
end Go.Proofs.YtmgdljhamplgiaaDoor
