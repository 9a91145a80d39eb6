/- Arguments that are lists of pieces: what their reading gives. -/
import Derived.Test.YtmgdljhamplgiaaDoorRows
import Derived.Test.YtmgdljhamplgiaaDoorPrintB
import Derived.Deep.Slices
import Derived.ProofKit
namespace Go.Proofs.YtmgdljhamplgiaaDoor
open Go.ChangeShapes Go.WideShapes Go.ChangeAt Go.RowKit
set_option linter.unusedVariables false

section
variable {H : Type} {enc : TypeId × Value → H} {w : World} {spare : Nat → Bool} {held : Bool}

theorem bulk_pos (d : DataW H) : 1 ≤ Rows.uptoBulk d := by
  cases d with
  | lit l => cases l <;> simp [Rows.uptoBulk]
  | nil => simp [Rows.uptoBulk]
  | ptr d => simp [Rows.uptoBulk]
  | slice elems spare => simp [Rows.uptoBulk]
  | agg parts => simp [Rows.uptoBulk]
  | iface t d => simp [Rows.uptoBulk]
  | map entries => simp [Rows.uptoBulk]
  | held h => simp [Rows.uptoBulk]
theorem bulk_len (l : List (DataW H)) : l.length ≤ Rows.uptoBulkAll l := by
  induction l with
  | nil => simp [Rows.uptoBulkAll]
  | cons x r ih => have := bulk_pos x; simp only [Rows.uptoBulkAll, List.length_cons]; omega

theorem elem_at {P : Program} {a : Addr} {C i : Nat} {F : List Value → Option (DataW H × List MemPlace)} {elems : List (DataW H × List MemPlace)} (h : (w.cells? 0 (a.add (i * C)) C).bind F = elems[i]?) (hi : i < elems.length) :
    ∃ cs, cs.length = C ∧ (∀ j, j < C → w.cell? ((a.add (i * C)).add j) = cs[j]?) ∧ F cs = some elems[i] := by
  rw [List.getElem?_eq_getElem hi] at h
  obtain ⟨cs, hc, hF⟩ := Option.bind_eq_some_iff.1 h
  obtain ⟨_, hl, hat⟩ := World.cells?_some hc
  exact ⟨cs, hl, hat, hF⟩

theorem add_none (b o n : Nat) : (⟨b, o, none⟩ : Addr).add n = ⟨b, o + n, none⟩ := by unfold Addr.add; split <;> simp_all
/-- the address of a slice that has an element, and its elements' cells -/
theorem row_at {P : Program} {a : Addr} {C len n : Nat} {e : TypeId} {elems : List (DataW H × List MemPlace)} (hC : 0 < C) (hlen : elems.length = len) (hp : 0 < len)
    (hel : ∀ i, i < len → (w.cells? 0 (a.add (i * C)) C).bind (DataW.trod enc P w 0 spare held n e) = elems[i]?) :
    a.spot = none ∧ ∀ i (hi : i < elems.length), ∃ cs, cs.length = C ∧ (∀ j, j < C → w.cell? ⟨a.block, a.off + i * C + j, none⟩ = cs[j]?) ∧ DataW.trod enc P w 0 spare held n e cs = some elems[i] := by
  have hsp : a.spot = none := by
    obtain ⟨cs, hcl, hat, _⟩ := elem_at (P := P) (hel 0 hp) (by omega)
    have a0 := hat 0 hC
    rw [List.getElem?_eq_getElem (by omega)] at a0
    have := World.cell?_spot a0
    simpa [Addr.add] using this
  obtain ⟨b, o, s⟩ := a
  simp only at hsp
  subst hsp
  refine ⟨rfl, fun i hi => ?_⟩
  obtain ⟨cs, hcl, hat, hF⟩ := elem_at (P := P) (hel i (by omega)) hi
  refine ⟨cs, hcl, fun j hj => ?_, hF⟩
  have := hat j hj
  rwa [add_none, add_none] at this
theorem wf_u8 {n : Int} (h : (Lit.int .u8 n).wf = true) : 0 ≤ n ∧ n ≤ 255 := by
  have hmin : IntKind.u8.min = 0 := rfl
  have hmax : IntKind.u8.max = 255 := rfl
  simp only [Lit.wf, Bool.and_eq_true, decide_eq_true_eq] at h
  omega

theorem cellsItem : Tryd.prog.cellsOf 34 = 3 := by kernel_rfl
theorem cellsPiece : Tryd.prog.cellsOf 27 = 6 := by kernel_rfl
theorem cellsInt : Tryd.prog.cellsOf 3 = 1 := by kernel_rfl
theorem cellsU8 : Tryd.prog.cellsOf 5 = 1 := by kernel_rfl
theorem cellsBool : Tryd.prog.cellsOf 4 = 1 := by kernel_rfl
theorem cellsString : Tryd.prog.cellsOf 9 = 1 := by kernel_rfl
theorem cellsItems : Tryd.prog.cellsOf 24 = 1 := by kernel_rfl
theorem cellsPieces : Tryd.prog.cellsOf 22 = 1 := by kernel_rfl
theorem cellsLists : Tryd.prog.cellsOf 25 = 1 := by kernel_rfl

/-- an item's three cells -/
theorem open_item {fuel : Nat} {cs : List Value} {x : DataW H × List MemPlace} (h : DataW.trod enc Tryd.prog w 0 spare held fuel 34 cs = some x) :
    ∃ it : It, cs = [.int .i64 it.cls, .int .u8 it.lo, .int .u8 it.hi] ∧ (0 ≤ it.lo ∧ it.lo ≤ 255 ∧ 0 ≤ it.hi ∧ it.hi ≤ 255) ∧ Rows.uptoBulk x.1 = 4 := by
  obtain ⟨xs, n, _, hx, hlen, hsz, hf⟩ := DataW.trod_struct Tryd.underlying34 h
  rw [cellsItem] at hlen
  obtain ⟨c0, c1, c2, rfl⟩ : ∃ c0 c1 c2, cs = [c0, c1, c2] := by
    match cs, hlen with
    | [c0, c1, c2], _ => exact ⟨_, _, _, rfl⟩
  obtain ⟨y0, y1, y2, rfl⟩ : ∃ c0 c1 c2, xs = [c0, c1, c2] := by
    match xs, hsz with
    | [c0, c1, c2], _ => exact ⟨_, _, _, rfl⟩
  have f0 := hf 0 _ rfl
  have f1 := hf 1 _ rfl
  have f2 := hf 2 _ rfl
  have g0 : DataW.trod enc Tryd.prog w 0 spare held n 3 [c0] = some y0 := by simpa [cellsInt] using f0
  have g1 : DataW.trod enc Tryd.prog w 0 spare held n 5 [c1] = some y1 := by simpa [cellsU8] using f1
  have g2 : DataW.trod enc Tryd.prog w 0 spare held n 5 [c2] = some y2 := by simpa [cellsU8] using f2
  obtain ⟨n0, e0, rfl, _⟩ := DataW.trod_int Tryd.underlying3 g0
  obtain ⟨n1, e1, rfl, w1⟩ := DataW.trod_int Tryd.underlying5 g1
  obtain ⟨n2, e2, rfl, w2⟩ := DataW.trod_int Tryd.underlying5 g2
  obtain rfl := List.head_eq_of_cons_eq e0
  obtain rfl := List.head_eq_of_cons_eq e1
  obtain rfl := List.head_eq_of_cons_eq e2
  have b1 := wf_u8 w1
  have b2 := wf_u8 w2
  exact ⟨⟨n0, n1, n2⟩, rfl, ⟨b1.1, b1.2, b2.1, b2.2⟩, by subst hx; simp [Rows.uptoBulk, Rows.uptoBulkAll]⟩

theorem sliceAt_of {a : Addr} {len cap : Nat} (h : 0 < len → a.spot = none) : SliceAt (.slice (some a) len cap) len a.block a.off := by
  by_cases hz : len = 0
  · subst hz; exact .inl ⟨rfl, _, _, rfl⟩
  · obtain ⟨b, o, s⟩ := a
    have : s = none := h (by omega)
    subst this
    exact .inr ⟨cap, rfl⟩

theorem items_len (i : It) : (Pat.printItem i).length ≤ 10 := by
  unfold Pat.printItem
  split
  · split <;> simp
  · have := names_le i.cls.toNat
    simp only [List.length_append, List.length_cons, List.length_nil]; omega

theorem bulkAll_const (l : List (DataW H)) (k : Nat) (h : ∀ x ∈ l, k ≤ Rows.uptoBulk x) : k * l.length ≤ Rows.uptoBulkAll l := by
  induction l with
  | nil => simp [Rows.uptoBulkAll]
  | cons x r ih =>
    have h1 := h x (by simp)
    have h2 := ih (fun y hy => h y (by simp [hy]))
    simp only [Rows.uptoBulkAll, List.length_cons, Nat.mul_succ]; omega

theorem open_items {fuel : Nat} {v : Value} {x : DataW H × List MemPlace} (h : DataW.trod enc Tryd.prog w 0 spare held fuel 24 [v] = some x) (hb : Rows.uptoBulk x.1 ≤ 1048576) :
    ∃ its, ItemsAt w v its ∧ 10 * its.length + 1 ≤ 10 * Rows.uptoBulk x.1 := by
  rcases DataW.trod_slice Tryd.underlying24 h with ⟨h0, hx⟩ | ⟨a, len, cap, elems, rest, n, _, hcs, hx, _, hl, hm, hlen, hel, _, _⟩
  · simp at h0
    subst h0 hx
    exact ⟨[], ⟨0, 0, .inl ⟨rfl, _, _, rfl⟩, by simp, fun i hi => by simp at hi⟩, by simp [Rows.uptoBulk]⟩
  · simp at hcs
    subst hcs hx
    rw [cellsItem] at hel
    obtain ⟨its, hil, hip⟩ := choose_list (α := It) (n := len) (P := fun i it => a.spot = none ∧ w.cell? ⟨a.block, a.off + i * 3, none⟩ = some (.int .i64 it.cls) ∧ w.cell? ⟨a.block, a.off + i * 3 + 1, none⟩ = some (.int .u8 it.lo) ∧ w.cell? ⟨a.block, a.off + i * 3 + 2, none⟩ = some (.int .u8 it.hi) ∧ (0 ≤ it.lo ∧ it.lo ≤ 255 ∧ 0 ≤ it.hi ∧ it.hi ≤ 255)) (fun i hi => by
      obtain ⟨hsp, hrow⟩ := row_at (by omega) hlen (by omega) hel
      obtain ⟨cs, hcl, hat, hF⟩ := hrow i (by omega)
      obtain ⟨it, rfl, hr, hbk⟩ := open_item hF
      exact ⟨it, hsp, hat 0 (by omega), hat 1 (by omega), hat 2 (by omega), hr⟩)
    have hbulk : Rows.uptoBulk (DataW.slice (elems.map (·.1)) (rest.map (·.1))) = Rows.uptoBulkAll (elems.map (·.1)) + Rows.uptoBulkAll (rest.map (·.1)) + 1 := by simp [Rows.uptoBulk]
    have h4 := bulk_len (elems.map (·.1))
    simp only [List.length_map] at h4
    dsimp only at hb ⊢
    rw [hbulk] at hb ⊢
    refine ⟨its, ⟨a.block, a.off, by rw [hil]; exact sliceAt_of (fun h0 => (hip 0 (by omega)).1), by omega, fun i hi => ?_⟩, by omega⟩
    obtain ⟨_, h1, h2, h3, h5⟩ := hip i hi
    exact ⟨h1, h2, h3, h5⟩

/-- a piece's six cells -/
theorem open_flat {fuel : Nat} {cs : List Value} {x : DataW H × List MemPlace} (h : DataW.trod enc Tryd.prog w 0 spare held fuel 27 cs = some x) (hb : Rows.uptoBulk x.1 ≤ 1048576) :
    ∃ (p : PF) (vi vl : Value) (n : Nat) (z : DataW H × List MemPlace), fuel = n + 1 ∧ cs = [.int .i64 p.kind, .string p.text, .bool p.neg, vi, .int .u8 p.sign, vl] ∧ p.text.size ≤ maxLen ∧ ItemsAt w vi p.items ∧ (0 ≤ p.sign ∧ p.sign ≤ 255) ∧
      DataW.trod enc Tryd.prog w 0 spare held n 25 [vl] = some z ∧ 10 * p.items.length + 10 * p.text.size + 10 * Rows.uptoBulk z.1 + 5 ≤ 10 * Rows.uptoBulk x.1 := by
  obtain ⟨xs, n, hfu, hx, hlen, hsz, hf⟩ := DataW.trod_struct Tryd.underlying27 h
  rw [cellsPiece] at hlen
  obtain ⟨c0, c1, c2, c3, c4, c5, rfl⟩ : ∃ c0 c1 c2 c3 c4 c5, cs = [c0, c1, c2, c3, c4, c5] := by
    match cs, hlen with
    | [c0, c1, c2, c3, c4, c5], _ => exact ⟨_, _, _, _, _, _, rfl⟩
  obtain ⟨y0, y1, y2, y3, y4, y5, rfl⟩ : ∃ c0 c1 c2 c3 c4 c5, xs = [c0, c1, c2, c3, c4, c5] := by
    match xs, hsz with
    | [c0, c1, c2, c3, c4, c5], _ => exact ⟨_, _, _, _, _, _, rfl⟩
  have g0 : DataW.trod enc Tryd.prog w 0 spare held n 3 [c0] = some y0 := by simpa [cellsInt] using hf 0 _ rfl
  have g1 : DataW.trod enc Tryd.prog w 0 spare held n 9 [c1] = some y1 := by simpa [cellsString] using hf 1 _ rfl
  have g2 : DataW.trod enc Tryd.prog w 0 spare held n 4 [c2] = some y2 := by simpa [cellsBool] using hf 2 _ rfl
  have g3 : DataW.trod enc Tryd.prog w 0 spare held n 24 [c3] = some y3 := by simpa [cellsItems] using hf 3 _ rfl
  have g4 : DataW.trod enc Tryd.prog w 0 spare held n 5 [c4] = some y4 := by simpa [cellsU8] using hf 4 _ rfl
  have g5 : DataW.trod enc Tryd.prog w 0 spare held n 25 [c5] = some y5 := by simpa [cellsLists] using hf 5 _ rfl
  obtain ⟨n0, e0, rfl, _⟩ := DataW.trod_int Tryd.underlying3 g0
  obtain ⟨s1, e1, rfl, hs1⟩ := DataW.trod_string Tryd.underlying9 g1
  obtain ⟨b2, e2, rfl⟩ := DataW.trod_bool Tryd.underlying4 g2
  obtain ⟨n4, e4, rfl, w4⟩ := DataW.trod_int Tryd.underlying5 g4
  obtain rfl := List.head_eq_of_cons_eq e0
  obtain rfl := List.head_eq_of_cons_eq e1
  obtain rfl := List.head_eq_of_cons_eq e2
  obtain rfl := List.head_eq_of_cons_eq e4
  subst hx
  have hbk : Rows.uptoBulk (DataW.agg (H := H) [.lit (.int .i64 n0), .lit (.string s1.data.toList), .lit (.bool b2), y3.1, .lit (.int .u8 n4), y5.1]) = 1 + (s1.size + 1) + 1 + Rows.uptoBulk y3.1 + 1 + Rows.uptoBulk y5.1 + 1 := by
    simp only [Rows.uptoBulk, Rows.uptoBulkAll, Pat.size_toList]; omega
  simp only [List.map_cons, List.map_nil] at hb ⊢
  rw [hbk] at hb ⊢
  obtain ⟨its, hit, hil⟩ := open_items g3 (by omega)
  exact ⟨⟨n0, s1, b2, its, n4⟩, c3, c5, n, y5, hfu, rfl, hs1, hit, wf_u8 w4, g5, by dsimp only; omega⟩

theorem printText_len : ∀ l : List UInt8, (Pat.printText l).length ≤ 2 * l.length
  | [] => by simp [Pat.printText]
  | c :: r => by
    have h := printText_len r
    simp only [Pat.printText] at h
    simp only [Pat.printText, List.flatMap_cons, List.length_append, List.length_cons, Pat.esc1]
    split <;> simp only [List.length_cons, List.length_nil] <;> omega
theorem printItems_len : ∀ l : List It, (l.flatMap Pat.printItem).length ≤ 10 * l.length
  | [] => by simp
  | c :: r => by
    have h := printItems_len r
    have h1 := items_len c
    simp only [List.flatMap_cons, List.length_append, List.length_cons]; omega
theorem bars_len : ∀ l : List (List UInt8), (Pat.bars l).length ≤ (l.map fun x => x.length + 1).sum
  | [] => by simp [Pat.bars]
  | x :: r => by
    have h : (Pat.barred r).length = (r.map fun x => x.length + 1).sum := by
      induction r with
      | nil => simp [Pat.barred]
      | cons y r ih => simp only [Pat.barred, List.flatMap_cons, List.length_append, List.length_cons, List.map_cons, List.sum_cons] at ih ⊢; omega
    rw [Pat.bars_cons, List.length_append, h]
    simp only [List.map_cons, List.sum_cons]; omega
theorem printFlat_len (p : PF) (ls : List (List UInt8)) : (Pat.printFlat p ls).length ≤ 3 + 2 * p.text.size + 10 * p.items.length + (Pat.bars ls).length := by
  have h1 := printText_len p.text.data.toList
  have h2 := printItems_len p.items
  rw [Pat.size_toList] at h1
  unfold Pat.printFlat
  split
  · omega
  · split
    · simp; omega
    · split
      · simp; omega
      · split
        · simp only [List.length_append, List.length_cons, List.length_nil]
          split <;> simp only [List.length_cons, List.length_nil] <;> omega
        · split
          · simp only [List.length_append, List.length_cons, List.length_nil]; omega
          · simp

theorem sum_le {α : Type} (f g : α → Nat) : ∀ (l : List α), (∀ x ∈ l, f x ≤ g x) → (l.map f).sum ≤ (l.map g).sum
  | [], _ => by simp
  | x :: r, h => by
    have h1 := h x (by simp)
    have h2 := sum_le f g r (fun y hy => h y (by simp [hy]))
    simp only [List.map_cons, List.sum_cons]; omega
theorem bulkAll_sum : ∀ l : List (DataW H), Rows.uptoBulkAll l = (l.map Rows.uptoBulk).sum
  | [] => by simp [Rows.uptoBulkAll]
  | x :: r => by simp only [Rows.uptoBulkAll, List.map_cons, List.sum_cons, bulkAll_sum r]
/-- a sum over two lists side by side -/
theorem sum_zip {α β : Type} (f : α → Nat) (g : β → Nat) : ∀ (A : List α) (B : List β), A.length = B.length → (∀ i (h1 : i < A.length) (h2 : i < B.length), f A[i] ≤ g B[i]) → (A.map f).sum ≤ (B.map g).sum
  | [], B, h, _ => by simp
  | a :: A, [], h, _ => by simp at h
  | a :: A, b :: B, h, hi => by
    have h0 := hi 0 (by simp) (by simp)
    have hr := sum_zip f g A B (by simpa using h) (fun i h1 h2 => by
      have := hi (i + 1) (by simp; omega) (by simp; omega)
      simpa using this)
    simp only [List.getElem_cons_zero] at h0
    simp only [List.map_cons, List.sum_cons]; omega
theorem length_flatMap' {α : Type} (f : α → List UInt8) (l : List α) : (l.flatMap f).length = (l.map fun x => (f x).length).sum := by
  induction l with
  | nil => simp
  | cons x r ih => simp only [List.flatMap_cons, List.length_append, List.map_cons, List.sum_cons, ih]

end
end Go.Proofs.YtmgdljhamplgiaaDoor
