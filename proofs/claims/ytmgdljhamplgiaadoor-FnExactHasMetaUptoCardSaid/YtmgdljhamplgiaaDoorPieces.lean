/- Pieces: their plain form, and how they lie in memory. -/
import Derived.Test.YtmgdljhamplgiaaDoorPlainA
import Derived.Below
import GoSem.Claims
namespace Go.Proofs.YtmgdljhamplgiaaDoor
open Go.RowKit

/-- an item of brackets: class, low, high -/
structure It where
  cls : Int
  lo : Int
  hi : Int
/-- a piece without its lists -/
structure PF where
  kind : Int
  text : ByteArray
  neg : Bool
  items : List It
  sign : Int
/-- pieces of at most so many groups one in another -/
def PT : Nat → Type
  | 0 => PF
  | n + 1 => PF × List (List (PT n))
def PT.f : (n : Nat) → PT n → PF
  | 0, p => p
  | _ + 1, p => p.1

/-- a slice value of so many elements, at block b from cell o on -/
def SliceAt (v : Value) (len b o : Nat) : Prop := (len = 0 ∧ ∃ a c, v = .slice a 0 c) ∨ ∃ c, v = .slice (some ⟨b, o, none⟩) len c

def ItemsAt (w : World) (v : Value) (its : List It) : Prop :=
  ∃ b o, SliceAt v its.length b o ∧ its.length ≤ 70368744177664 ∧ ∀ i (h : i < its.length), w.cell? ⟨b, o + i * 3, none⟩ = some (.int .i64 its[i].cls) ∧ w.cell? ⟨b, o + i * 3 + 1, none⟩ = some (.int .u8 its[i].lo) ∧ w.cell? ⟨b, o + i * 3 + 2, none⟩ = some (.int .u8 its[i].hi) ∧ 0 ≤ its[i].lo ∧ its[i].lo ≤ 255 ∧ 0 ≤ its[i].hi ∧ its[i].hi ≤ 255

def FlatAt (w : World) (b o : Nat) (p : PF) (vl : Value) : Prop :=
  ∃ vi, w.cell? ⟨b, o, none⟩ = some (.int .i64 p.kind) ∧ w.cell? ⟨b, o + 1, none⟩ = some (.string p.text) ∧ w.cell? ⟨b, o + 2, none⟩ = some (.bool p.neg) ∧ w.cell? ⟨b, o + 3, none⟩ = some vi ∧ w.cell? ⟨b, o + 4, none⟩ = some (.int .u8 p.sign) ∧ w.cell? ⟨b, o + 5, none⟩ = some vl ∧ p.text.size ≤ maxLen ∧ ItemsAt w vi p.items ∧ 0 ≤ p.sign ∧ p.sign ≤ 255

def PiecesAt : (n : Nat) → World → Value → List (PT n) → Prop
  | 0, w, v, ps => ∃ b o, SliceAt v ps.length b o ∧ ps.length ≤ 70368744177664 ∧ ∀ i (h : i < ps.length), ∃ a c, FlatAt w b (o + i * 6) ps[i] (.slice a 0 c)
  | n + 1, w, v, ps => ∃ b o, SliceAt v ps.length b o ∧ ps.length ≤ 70368744177664 ∧ ∀ i (h : i < ps.length), ∃ vl, FlatAt w b (o + i * 6) ps[i].1 vl ∧
      ∃ b2 o2, SliceAt vl ps[i].2.length b2 o2 ∧ ps[i].2.length ≤ 70368744177664 ∧ ∀ j (h2 : j < ps[i].2.length), ∃ vj, w.cell? ⟨b2, o2 + j, none⟩ = some vj ∧ PiecesAt n w vj ps[i].2[j]

theorem cell_kept {w w' : World} (h : Below w.heap.size w w') {b o : Nat} {v : Value} (hc : w.cell? ⟨b, o, none⟩ = some v) : w'.cell? ⟨b, o, none⟩ = some v := by
  rw [h.cell (p := ⟨b, o, none⟩) (World.block_lt_of_cell? _ _ hc)]; exact hc

theorem ItemsAt.kept {w w' : World} (h : Below w.heap.size w w') {v : Value} {its : List It} (hi : ItemsAt w v its) : ItemsAt w' v its := by
  obtain ⟨b, o, hs, hl, hc⟩ := hi
  refine ⟨b, o, hs, hl, fun i hi => ?_⟩
  obtain ⟨h1, h2, h3, h4⟩ := hc i hi
  exact ⟨cell_kept h h1, cell_kept h h2, cell_kept h h3, h4⟩
theorem FlatAt.kept {w w' : World} (h : Below w.heap.size w w') {b o : Nat} {p : PF} {vl : Value} (hi : FlatAt w b o p vl) : FlatAt w' b o p vl := by
  obtain ⟨vi, h1, h2, h3, h4, h5, h6, h7, h8, h9⟩ := hi
  exact ⟨vi, cell_kept h h1, cell_kept h h2, cell_kept h h3, cell_kept h h4, cell_kept h h5, cell_kept h h6, h7, h8.kept h, h9⟩
theorem PiecesAt.kept {w w' : World} (h : Below w.heap.size w w') : ∀ (n : Nat) {v : Value} {ps : List (PT n)}, PiecesAt n w v ps → PiecesAt n w' v ps
  | 0, v, ps, ⟨b, o, hs, hl, hc⟩ => ⟨b, o, hs, hl, fun i hi => by
      obtain ⟨a, c, hf⟩ := hc i hi
      exact ⟨a, c, hf.kept h⟩⟩
  | n + 1, v, ps, ⟨b, o, hs, hl, hc⟩ => ⟨b, o, hs, hl, fun i hi => by
      obtain ⟨vl, hf, b2, o2, hs2, hl2, hc2⟩ := hc i hi
      refine ⟨vl, hf.kept h, b2, o2, hs2, hl2, fun j hj => ?_⟩
      obtain ⟨vj, hv, hp⟩ := hc2 j hj
      exact ⟨vj, cell_kept h hv, PiecesAt.kept h n hp⟩⟩

/-! What PiecesOk computes -/
namespace Pat
def textL (l : List UInt8) : Bool := l.all fun c => decide (32 ≤ c.toNat ∧ c.toNat ≤ 126)
def safeI (n : Int) : Bool := letterI n || n == 95 || n == 47 || n == 46 || n == 44 || n == 58 || n == 61 || n == 126 || n == 37 || n == 32
def itemI (i : It) : Bool :=
  if i.cls = 0 then (i.lo == i.hi && safeI i.lo && i.lo != 47 && i.lo != 46 && i.lo != 58 && i.lo != 61) || (decide (i.lo ≤ i.hi) && ((decide (48 ≤ i.lo) && decide (i.hi ≤ 57)) || (decide (97 ≤ i.lo) && decide (i.hi ≤ 122)) || (decide (65 ≤ i.lo) && decide (i.hi ≤ 90))))
  else decide (1 ≤ i.cls) && decide (i.cls ≤ 12)
def signB (nt : Bool) (s : Int) : Bool := s == 63 || s == 42 || s == 43 || s == 64 || (s == 33 && nt)
def okFlat (p : PF) : Bool :=
  if p.kind = 1 then textL p.text.data.toList
  else if p.kind = 2 ∨ p.kind = 3 then true
  else if p.kind = 4 then p.items.all itemI && !p.items.isEmpty
  else false
def okP : (n : Nat) → Bool → Bool → Int → List (PT n) → Bool
  | 0, _, _, d, ps => !decide (3 < d) && ps.all fun p => okFlat p
  | n + 1, g, nt, d, ps => !decide (3 < d) && ps.all fun p => if p.1.kind = 5 then g && !p.2.isEmpty && signB nt p.1.sign && p.2.all (okP n g nt (d + 1)) else okFlat p.1
end Pat
end Go.Proofs.YtmgdljhamplgiaaDoor
