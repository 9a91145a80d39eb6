/- What Print computes: plain functions. -/
import Derived.Test.YtmgdljhamplgiaaDoorPiecesOkB
namespace Go.Proofs.YtmgdljhamplgiaaDoor
open Go.RowKit
namespace Pat
def names : List (List UInt8) := [[], [97, 108, 110, 117, 109], [97, 108, 112, 104, 97], [98, 108, 97, 110, 107], [99, 110, 116, 114, 108], [100, 105, 103, 105, 116], [103, 114, 97, 112, 104], [108, 111, 119, 101, 114], [112, 114, 105, 110, 116], [112, 117, 110, 99, 116], [115, 112, 97, 99, 101], [117, 112, 112, 101, 114], [120, 100, 105, 103, 105, 116]]
def byteI (n : Int) : UInt8 := n.toNat.toUInt8
def printItem (i : It) : List UInt8 := if i.cls = 0 then (if i.lo = i.hi then [byteI i.lo] else [byteI i.lo, 45, byteI i.hi]) else [91, 58] ++ names.getD i.cls.toNat [] ++ [58, 93]
def esc1 (c : UInt8) : List UInt8 := if safeI c.toNat then [c] else [92, c]
def printText (l : List UInt8) : List UInt8 := l.flatMap esc1
/-- lists with bars between them -/
def bars : List (List UInt8) → List UInt8
  | [] => []
  | [x] => x
  | x :: y :: r => x ++ [124] ++ bars (y :: r)
/-- the lists from the j-th on, each with a bar before it -/
def barred (r : List (List UInt8)) : List UInt8 := r.flatMap fun x => 124 :: x
theorem bars_cons (x : List UInt8) : ∀ r : List (List UInt8), bars (x :: r) = x ++ barred r
  | [] => by simp [bars, barred]
  | y :: r => by rw [bars, bars_cons y r]; simp [barred]
def printFlat (p : PF) (ls : List (List UInt8)) : List UInt8 :=
  if p.kind = 1 then printText p.text.data.toList
  else if p.kind = 2 then [63]
  else if p.kind = 3 then [42]
  else if p.kind = 4 then [91] ++ (if p.neg then [33] else []) ++ p.items.flatMap printItem ++ [93]
  else if p.kind = 5 then [byteI p.sign, 40] ++ bars ls ++ [41]
  else []
def printP : (n : Nat) → List (PT n) → List UInt8
  | 0, ps => ps.flatMap fun p => printFlat p []
  | n + 1, ps => ps.flatMap fun p => printFlat p.1 (p.2.map (printP n))
end Pat
/-- the names of the classes lie in memory as the program's text lays them -/
def Names (w : World) : Prop := ∃ cb co cc, w.cell? ⟨0, 0, none⟩ = some (.slice (some ⟨cb, co, none⟩) 13 cc) ∧ ∀ i, i < 13 → w.cell? ⟨cb, co + i, none⟩ = some (.string ⟨(Pat.names.getD i []).toArray⟩)
theorem Names.kept {w w' : World} (h : Below w.heap.size w w') (hn : Names w) : Names w' := by
  obtain ⟨cb, co, cc, h1, h2⟩ := hn
  exact ⟨cb, co, cc, cell_kept h h1, fun i hi => cell_kept h (h2 i hi)⟩
end Go.Proofs.YtmgdljhamplgiaaDoor
